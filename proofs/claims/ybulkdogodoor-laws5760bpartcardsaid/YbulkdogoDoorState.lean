import Derived.Test.YbulkdogoDoorLib
namespace Go.Proofs.YbulkdogoDoor
open Go.RowKit Pl

/-- Is a layer kept for level l of peer p? -/
def presB (P R : Nat → Nat → Nat → Bool) (N p l : Nat) : Bool := decide (1 ≤ l) && (anyV (P l p) N || anyV (R l p) N)
/-- The slice value v holds peer p's layers below level j. -/
def Lays (w : World) (P R : Nat → Nat → Nat → Bool) (N p j : Nat) (v : Value) : Prop :=
  (v = .slice none 0 0 ∧ nbs (presB P R N p) j = []) ∨
  ∃ g cap, v = .slice (some ⟨g, 0, none⟩) (nbs (presB P R N p) j).length cap ∧ ∀ i (h : i < (nbs (presB P R N p) j).length),
    w.cell? ⟨g, i * 3, none⟩ = some (.int .i64 (nbs (presB P R N p) j)[i]) ∧ ∃ nv rv, w.cell? ⟨g, i * 3 + 1, none⟩ = some nv ∧ w.cell? ⟨g, i * 3 + 2, none⟩ = some rv ∧
      IL w nv (nbs (P (nbs (presB P R N p) j)[i].toNat p) N) ∧ IL w rv (nbs (R (nbs (presB P R N p) j)[i].toNat p) N)
/-- The state in block S with the array 'up' in block U. -/
structure St (S U N : Nat) (P R : Nat → Nat → Nat → Bool) (w : World) : Prop where
  up : w.cell? ⟨S, 1, none⟩ = some (.slice (some ⟨U, 0, none⟩) N N)
  row : ∀ p, p < N → ∃ v, w.cell? ⟨U, p, none⟩ = some v ∧ Lays w P R N p 4 v
theorem St.drewN {S U N : Nat} {P R : Nat → Nat → Nat → Bool} {w : World} (h : St S U N P R w) (n : Nat) : St S U N P R (w.drewN n) := ⟨h.up, h.row⟩

theorem presB_le {P R : Nat → Nat → Nat → Bool} {N p : Nat} : (nbs (presB P R N p) 4).length ≤ 3 := by
  have e : nbs (presB P R N p) 4 = nbs (presB P R N p) 1 ++ ((if presB P R N p 1 then [((1 : Nat) : Int)] else []) ++ ((if presB P R N p 2 then [((2 : Nat) : Int)] else []) ++ (if presB P R N p 3 then [((3 : Nat) : Int)] else []))) := by
    rw [nbs_snoc, nbs_snoc, nbs_snoc, List.append_assoc, List.append_assoc]
  have e0 : nbs (presB P R N p) 1 = [] := by
    rw [nbs_snoc]
    simp [nbs, presB]
  rw [e, e0]
  split <;> split <;> split <;> simp

theorem dec_beq (a b : Int) : decide (some a = some b) = (a == b) := by
  by_cases h : a = b <;> simp [h]

set_option maxHeartbeats 400000 in
set_option maxRecDepth 100000 in
theorem layerAt_some (S U N g cap : Nat) (p l : Nat) (ls : List Int) (w : World) (hp : p < N) (hup : w.cell? ⟨S, 1, none⟩ = some (.slice (some ⟨U, 0, none⟩) N N)) (hrow : w.cell? ⟨U, p, none⟩ = some (.slice (some ⟨g, 0, none⟩) ls.length cap))
    (hl : ls.length ≤ 3) (hs : ls.Pairwise (· < ·)) (hc : ∀ i (h : i < ls.length), w.cell? ⟨g, i * 3, none⟩ = some (.int .i64 ls[i])) :
    Calls Ybad.prog 19 #[.pointer (some ⟨S, 0, none⟩), .int .i32 p, .int .i64 l] w fun e w' => ∃ i, Stop ls l i ∧ e = .returned (.tuple #[.int .i64 i, .bool (decide (ls[i]? = some (l : Int)))]) ∧ ∃ m, w' = w.drewN m := by
  have HC : Hid (∀ i (h : i < ls.length), w.cell? ⟨g, i * 3, none⟩ = some (.int .i64 ls[i])) := hc
  clear hc
  go_enter Ybad.func19, Ybad.ntmps19
  go_wp2
  go_loop [9, 10, 11] (fun lo hi _ => ∃ a b : Nat, lo = .int .i64 a ∧ hi = .int .i64 b ∧ a ≤ b ∧ b ≤ ls.length ∧ (∀ j (hj : j < ls.length), j < a → ls[j] < l) ∧ (∀ j (hj : j < ls.length), b ≤ j → (l : Int) ≤ ls[j])) (fun lo hi _ => (intOf hi).toNat - (intOf lo).toNat)
  case atStart => exact ⟨0, ls.length, rfl, rfl, Nat.zero_le _, Nat.le_refl _, fun _ _ h => absurd h (Nat.not_lt_zero _), fun j hj h => by omega⟩
  case round =>
    obtain ⟨a, b, rfl, rfl, hab, hbl, hlo, hhi⟩ := hrel
    have HLO : Hid (∀ j (hj : j < ls.length), j < a → ls[j] < l) := hlo
    have HHI : Hid (∀ j (hj : j < ls.length), b ≤ j → (l : Int) ≤ ls[j]) := hhi
    clear hlo hhi
    by_cases hlt : a < b
    · obtain ⟨m, hm⟩ : ∃ m : Nat, m = (a + b) / 2 := ⟨_, rfl⟩
      have e1 : ((a : Int) + b) / 2 = (m : Int) := by omega
      have hm1 : a ≤ m := by omega
      have hm2 : m < b := by omega
      have hmx : m < ls.length := by omega
      have e2 := HC.out m hmx
      have HM : Hid (m = (a + b) / 2) := hm
      clear hm
      by_cases hx : ls[m] < l
      · go_wp2
        go_round
        case rel =>
          exact ⟨m + 1, b, by go_num, rfl, by omega, hbl, fun j hj hjm => by
            by_cases hjl : j = m
            · subst hjl; exact hx
            · exact Int.lt_trans (List.pairwise_iff_getElem.1 hs j m hj hmx (by omega)) hx, HHI.out⟩
        case measure => simp [intOf]; omega
      · go_wp2
        go_round
        case rel =>
          exact ⟨a, m, rfl, rfl, by omega, by omega, HLO.out, fun j hj hjm => by
            by_cases hjl : j = m
            · subst hjl; omega
            · have := List.pairwise_iff_getElem.1 hs m j hmx hj (by omega); omega⟩
        case measure => simp [intOf]; omega
    · obtain rfl : a = b := by omega
      have hst : Stop ls l a := ⟨hbl, HLO.out, HHI.out⟩
      by_cases hll : a < ls.length
      · have e2 := HC.out a hll
        have e3 : decide (ls[a]? = some (l : Int)) = (ls[a] == (l : Int)) := by rw [List.getElem?_eq_getElem hll]; exact dec_beq _ _
        have E3 : Hid (decide (ls[a]? = some (l : Int)) = (ls[a] == (l : Int))) := e3
        have hlt' : (a : Int) < (ls.length : Int) := by omega
        clear e3
        go_wp2
        go_quiet (fail)
        go_wp2
        go_ret2
        exact ⟨a, hst, by rw [E3.out]; rfl, _, rfl⟩
      · have hd : decide ((a : Int) < (ls.length : Int)) = false := by simp; omega
        have E3 : Hid (decide (ls[a]? = some (l : Int)) = false) := by
          show decide (ls[a]? = some (l : Int)) = false
          rw [List.getElem?_eq_none (by omega)]; rfl
        go_wp2
        go_quiet (fail)
        go_wp2
        go_ret2
        exact ⟨a, hst, by rw [E3.out]; rfl, _, rfl⟩

set_option maxHeartbeats 400000 in
set_option maxRecDepth 100000 in
theorem layerAt_nil (S U N : Nat) (p l : Nat) (w : World) (hp : p < N) (hup : w.cell? ⟨S, 1, none⟩ = some (.slice (some ⟨U, 0, none⟩) N N)) (hrow : w.cell? ⟨U, p, none⟩ = some (.slice none 0 0)) :
    Calls Ybad.prog 19 #[.pointer (some ⟨S, 0, none⟩), .int .i32 p, .int .i64 l] w fun e w' => e = .returned (.tuple #[.int .i64 0, .bool false]) ∧ ∃ m, w' = w.drewN m := by
  go_enter Ybad.func19, Ybad.ntmps19
  go_wp2
  refine wp_loop_rounds 1 ?_
  rw [rounds_succ]
  go_wp2
  go_quiet (fail)
  go_wp2
  go_ret2
  exact ⟨rfl, _, rfl⟩

theorem layerAt_any (S U N : Nat) (P R : Nat → Nat → Nat → Bool) (p l : Nat) (w : World) (h : St S U N P R w) (hp : p < N) :
    Calls Ybad.prog 19 #[.pointer (some ⟨S, 0, none⟩), .int .i32 p, .int .i64 l] w fun e w' => ∃ i : Nat, Stop (nbs (presB P R N p) 4) l i ∧ e = .returned (.tuple #[.int .i64 i, .bool (decide ((nbs (presB P R N p) 4)[i]? = some (l : Int)))]) ∧ ∃ m, w' = w.drewN m := by
  obtain ⟨v, hv, hL⟩ := h.row p hp
  rcases hL with ⟨rfl, h0⟩ | ⟨g, cap, rfl, hc⟩
  · refine (layerAt_nil S U N p l w hp h.up hv).mono fun e w' ⟨he, hm⟩ => ⟨0, ?_, ?_, hm⟩
    · rw [h0]
      exact ⟨Nat.le_refl _, fun _ _ h => absurd h (Nat.not_lt_zero _), fun _ h => absurd h (Nat.not_lt_zero _)⟩
    · rw [he, h0]; rfl
  · exact layerAt_some S U N g cap p l _ w hp h.up hv presB_le (nbs_sorted _ _) (fun i hi => (hc i hi).1)

/-! ### neighbours -/
theorem pres_idx {P R : Nat → Nat → Nat → Bool} {N p l i : Nat} (hs : Stop (nbs (presB P R N p) 4) l i) (h1 : 1 ≤ l) (h4 : l < 4) (hno : (nbs (presB P R N p) 4)[i]? ≠ some (l : Int)) (rest : Bool) : nbs ((if rest then R else P) l p) N = [] := by
  have hp : presB P R N p l = false := by
    cases h : presB P R N p l with
    | false => rfl
    | true =>
      obtain ⟨j, hj, ej⟩ := nbs_idx h4 h
      exfalso
      by_cases hji : j < i
      · have := hs.lo j hj hji; omega
      · by_cases hje : j = i
        · subst hje; exact hno (by rw [List.getElem?_eq_getElem hj, ej])
        · have := nbs_lt (M := presB P R N p) (N := 4) (i := i) (j := j) (by omega) hj
          have := hs.hi i (by omega) (Nat.le_refl _)
          omega
  unfold presB at hp
  simp only [h1, decide_true, Bool.true_and, Bool.or_eq_false_iff] at hp
  rw [anyV_iff, anyV_iff] at hp
  cases rest
  · have := hp.1; simp at this; exact this
  · have := hp.2; simp at this; exact this

theorem lays_at {w : World} {P R : Nat → Nat → Nat → Bool} {N p l i : Nat} {v : Value} (hL : Lays w P R N p 4 v) (hy : (nbs (presB P R N p) 4)[i]? = some (l : Int)) :
    ∃ g n cap nv rv, v = .slice (some ⟨g, 0, none⟩) n cap ∧ i < n ∧ w.cell? ⟨g, i * 3 + 1, none⟩ = some nv ∧ w.cell? ⟨g, i * 3 + 2, none⟩ = some rv ∧ IL w nv (nbs (P l p) N) ∧ IL w rv (nbs (R l p) N) := by
  obtain ⟨hi, e⟩ := List.getElem?_eq_some_iff.1 hy
  rcases hL with ⟨_, h0⟩ | ⟨g, cap, rfl, hc⟩
  · rw [h0] at hi; exact absurd hi (Nat.not_lt_zero _)
  · obtain ⟨_, nv, rv, h1, h2, h3, h4⟩ := hc i hi
    rw [e] at h3 h4
    exact ⟨g, _, cap, nv, rv, rfl, hi, h1, h2, h3, h4⟩

theorem stop_unique {xs : List Int} {u : Int} {i j : Nat} (hi : Stop xs u i) (hj : Stop xs u j) : i = j := by
  have h1 := hi.le
  have h2 := hj.le
  by_cases h : i < j
  · have a := hj.lo i (by omega) h
    have b := hi.hi i (by omega) (Nat.le_refl _)
    omega
  · by_cases h' : j < i
    · have a := hi.lo j (by omega) h'
      have b := hj.hi j (by omega) (Nat.le_refl _)
      omega
    · omega
theorem stop_exists : ∀ {xs : List Int} (u : Int), xs.Pairwise (· < ·) → ∃ i, Stop xs u i
  | [], _, _ => ⟨0, Nat.le_refl _, fun _ _ h => absurd h (Nat.not_lt_zero _), fun _ h => absurd h (Nat.not_lt_zero _)⟩
  | x :: xs, u, h => by
    obtain ⟨h1, h2⟩ := List.pairwise_cons.1 h
    by_cases hx : x < u
    · obtain ⟨i, hle, hlo, hhi⟩ := stop_exists u h2
      refine ⟨i + 1, by simpa using hle, fun j hj hji => ?_, fun j hj hji => ?_⟩
      · cases j with
        | zero => exact hx
        | succ j => exact hlo j (by simpa using hj) (by omega)
      · cases j with
        | zero => omega
        | succ j => exact hhi j (by simpa using hj) (by omega)
    · refine ⟨0, Nat.zero_le _, fun _ _ h => absurd h (Nat.not_lt_zero _), fun j hj _ => ?_⟩
      cases j with
      | zero => simp; omega
      | succ j =>
        have := h1 _ (List.getElem_mem (by simpa using hj : j < xs.length))
        simp only [List.getElem_cons_succ]
        omega

set_option maxHeartbeats 400000 in
set_option maxRecDepth 100000 in
theorem nbrs_no (S : Nat) (p l i : Nat) (rest : Bool) (w : World) (HL : Hid (∀ w' : World, w' = w → Calls Ybad.prog 19 #[.pointer (some ⟨S, 0, none⟩), .int .i32 p, .int .i64 l] w' fun e w' => e = .returned (.tuple #[.int .i64 i, .bool false]) ∧ ∃ m, w' = w.drewN m)) :
    Calls Ybad.prog 15 #[.pointer (some ⟨S, 0, none⟩), .int .i32 p, .int .i64 l, .bool rest] w fun e w' => e = .returned (.slice none 0 0) ∧ ∃ m, w' = w.drewN m := by
  go_enter Ybad.func15, Ybad.ntmps15
  go_wp2_with (go_at_call 19; refine (HL.out _ rfl).mono ?_; rintro e w' ⟨rfl, m, rfl⟩)
  go_ret
  exact ⟨rfl, _, rfl⟩

set_option maxHeartbeats 400000 in
set_option maxRecDepth 100000 in
theorem nbrs_yes (S U N g n cap : Nat) (p l i : Nat) (rest : Bool) (nv rv : Value) (w : World) (hp : p < N) (hup : w.cell? ⟨S, 1, none⟩ = some (.slice (some ⟨U, 0, none⟩) N N)) (hrow : w.cell? ⟨U, p, none⟩ = some (.slice (some ⟨g, 0, none⟩) n cap))
    (hi : i < n) (h1 : w.cell? ⟨g, i * 3 + 1, none⟩ = some nv) (h2 : w.cell? ⟨g, i * 3 + 2, none⟩ = some rv)
    (HL : Hid (∀ w' : World, w' = w → Calls Ybad.prog 19 #[.pointer (some ⟨S, 0, none⟩), .int .i32 p, .int .i64 l] w' fun e w' => e = .returned (.tuple #[.int .i64 i, .bool true]) ∧ ∃ m, w' = w.drewN m)) :
    Calls Ybad.prog 15 #[.pointer (some ⟨S, 0, none⟩), .int .i32 p, .int .i64 l, .bool rest] w fun e w' => e = .returned (if rest then rv else nv) ∧ ∃ m, w' = w.drewN m := by
  cases rest
  all_goals
    go_enter Ybad.func15, Ybad.ntmps15
    go_wp2_with (go_at_call 19; refine (HL.out _ rfl).mono ?_; rintro e w' ⟨rfl, m, rfl⟩)
    go_ret
    exact ⟨rfl, _, rfl⟩

theorem nbrs_det (S U N : Nat) (P R : Nat → Nat → Nat → Bool) (p l : Nat) (rest : Bool) (w : World) (h : St S U N P R w) (hp : p < N) (h1 : 1 ≤ l) (h4 : l < 4) : ∃ v, IL w v (nbs ((if rest then R else P) l p) N) ∧
    Calls Ybad.prog 15 #[.pointer (some ⟨S, 0, none⟩), .int .i32 p, .int .i64 l, .bool rest] w fun e w' => e = .returned v ∧ ∃ m, w' = w.drewN m := by
  obtain ⟨v, hv, hL⟩ := h.row p hp
  obtain ⟨i, hst⟩ := stop_exists (l : Int) (nbs_sorted (presB P R N p) 4)
  by_cases hy : (nbs (presB P R N p) 4)[i]? = some (l : Int)
  · obtain ⟨g, n, cap, nv, rv, rfl, hi, e1, e2, h3, h4'⟩ := lays_at hL hy
    refine ⟨if rest then rv else nv, ?_, nbrs_yes S U N g n cap p l i rest nv rv w hp h.up hv hi e1 e2 ?_⟩
    · cases rest
      · exact h3
      · exact h4'
    · rintro w' rfl
      refine (layerAt_any S U N P R p l _ h hp).mono fun e w' ⟨j, hj, he, hm⟩ => ⟨?_, hm⟩
      obtain rfl := stop_unique hj hst
      rw [he, hy, decide_eq_true rfl]
  · refine ⟨_, Or.inl ⟨rfl, pres_idx hst h1 h4 hy rest⟩, nbrs_no S p l i rest w ?_⟩
    rintro w' rfl
    refine (layerAt_any S U N P R p l _ h hp).mono fun e w' ⟨j, hj, he, hm⟩ => ⟨?_, hm⟩
    obtain rfl := stop_unique hj hst
    rw [he, decide_eq_false hy]

/-! ### promoted, remains, nearestIn -/
theorem IL.shape {w : World} {v : Value} {xs : List Int} (h : IL w v xs) : ∃ o cap, v = .slice o xs.length cap := by
  rcases h with ⟨rfl, rfl⟩ | ⟨g, cap, h, _⟩
  · exact ⟨none, 0, rfl⟩
  · exact ⟨_, cap, h⟩

set_option maxHeartbeats 400000 in
set_option maxRecDepth 100000 in
theorem promoted_any (S U N : Nat) (P R : Nat → Nat → Nat → Bool) (u : Int) (l : Nat) (w : World) (h : St S U N P R w) (hu : u = -1 ∨ (0 ≤ u ∧ u < N)) (h1 : 1 ≤ l) (h4 : l < 4) :
    Calls Ybad.prog 14 #[.pointer (some ⟨S, 0, none⟩), .int .i32 u, .int .i64 l] w fun e w' => e = .returned (.bool (promV (P l u.toNat) N u)) ∧ ∃ m, w' = w.drewN m := by
  by_cases hn : u = -1
  · subst hn
    go_enter Ybad.func14, Ybad.ntmps14
    go_wp2
    go_ret
    exact ⟨rfl, 0, rfl⟩
  · obtain ⟨p, rfl⟩ : ∃ p : Nat, u = p := ⟨u.toNat, by omega⟩
    have hp : p < N := by omega
    have hne : ((p : Int) == -1) = false := beq_eq_false_iff_ne.2 hn
    have HE : Hid (promV (P l (p : Int).toNat) N p = decide (0 < (nbs (P l p) N).length)) := by
      show promV (P l (p : Int).toNat) N p = _
      rw [← anyV_iff]; simp [promV, hn]
    obtain ⟨v, hv, hc⟩ := nbrs_det S U N P R p l false w h hp h1 h4
    obtain ⟨o, cap, rfl⟩ := hv.shape
    have HC : Hid (∀ w' : World, w' = w → Calls Ybad.prog 15 #[.pointer (some ⟨S, 0, none⟩), .int .i32 p, .int .i64 l, .bool false] w' fun e w' => e = .returned (.slice o (nbs (P l p) N).length cap) ∧ ∃ m, w' = w.drewN m) := fun _ e => e ▸ hc
    clear hu hv hc h
    generalize (nbs (P l p) N).length = n at *
    have HE' : Hid (decide ((0 : Int) < (n : Int)) = decide (0 < n)) := by
      show decide ((0 : Int) < (n : Int)) = decide (0 < n)
      exact decide_eq_decide.2 (by omega)
    go_enter Ybad.func14, Ybad.ntmps14
    go_wp2_with (go_at_call 15; refine (HC.out _ rfl).mono ?_; rintro e w' ⟨rfl, m, rfl⟩)
    go_ret
    exact ⟨by rw [HE.out, ← HE'.out]; rfl, _, rfl⟩

set_option maxHeartbeats 400000 in
set_option maxRecDepth 100000 in
theorem remains_any (S U N : Nat) (P R : Nat → Nat → Nat → Bool) (u : Int) (l : Nat) (w : World) (h : St S U N P R w) (hu : u = -1 ∨ (0 ≤ u ∧ u < N)) (h1 : 1 ≤ l) (h4 : l < 4) :
    Calls Ybad.prog 12 #[.pointer (some ⟨S, 0, none⟩), .int .i32 u, .int .i64 l] w fun e w' => e = .returned (.bool (!promV (P l u.toNat) N u)) ∧ ∃ m, w' = w.drewN m := by
  have HST : Hid (St S U N P R w) := h
  have HU : Hid (u = -1 ∨ (0 ≤ u ∧ u < N)) := hu
  clear h hu
  go_enter Ybad.func12, Ybad.ntmps12
  go_wp2_with (go_at_call 14; refine (promoted_any S U N P R u l _ HST.out HU.out h1 h4).mono ?_; rintro e w' ⟨rfl, m, rfl⟩)
  go_ret
  exact ⟨rfl, _, rfl⟩

theorem bsearch_det (v : Value) (xs : List Int) (u : Int) (w : World) (hl : xs.length ≤ 64) (hs : xs.Pairwise (· < ·)) (hv : IL w v xs) (hu : u ∉ xs) :
    ∃ i, Stop xs u i ∧ Calls Ybad.prog 18 #[v, .int .i32 u] w fun e w' => e = .returned (.tuple #[.int .i64 i, .bool false]) ∧ w = w' := by
  obtain ⟨i, hi⟩ := stop_exists u hs
  refine ⟨i, hi, (bsearch_any v xs u w hl hs hv hu).mono fun e w' ⟨j, hj, he, hw⟩ => ⟨?_, hw⟩⟩
  rw [stop_unique hi hj, he]

/-- What nearestIn picks off the list. -/
def pickV (xs : List Int) (i : Nat) (right : Bool) : Int :=
  if right then (if h : i < xs.length then xs[i] else -1) else (if h : 0 < i ∧ i - 1 < xs.length then xs[i - 1]'h.2 else -1)
set_option maxHeartbeats 400000 in
set_option maxRecDepth 100000 in
theorem nearest_walk (S : Nat) (p l i : Nat) (rest right : Bool) (v : Value) (xs : List Int) (w : World) (h1 : 1 ≤ l) (hv : IL w v xs) (hi : i ≤ xs.length) (hx : xs.length ≤ 64)
    (HC : Hid (∀ w' : World, w' = w → Calls Ybad.prog 15 #[.pointer (some ⟨S, 0, none⟩), .int .i32 p, .int .i64 l, .bool rest] w' fun e w' => e = .returned v ∧ ∃ m, w' = w.drewN m))
    (HB : Hid (∀ w' : World, IL w' v xs → Calls Ybad.prog 18 #[v, .int .i32 p] w' fun e w'' => e = .returned (.tuple #[.int .i64 i, .bool false]) ∧ w' = w'')) :
    Calls Ybad.prog 13 #[.pointer (some ⟨S, 0, none⟩), .int .i32 p, .int .i64 l, .bool rest, .bool right] w fun e w' => e = .returned (.int .i32 (pickV xs i right)) ∧ ∃ m, w' = w.drewN m := by
  have hne : ((p : Int) == -1) = false := beq_eq_false_iff_ne.2 (by omega)
  have hl0 : ((l : Int) == 0) = false := beq_eq_false_iff_ne.2 (by omega)
  have HV : Hid (IL w v xs) := hv
  cases right with
  | true =>
    by_cases hlt : i < xs.length
    · have HR : Hid (pickV xs i true = xs[i]) := by
        show pickV xs i true = xs[i]
        simp [pickV, hlt]
      rcases hv with ⟨rfl, rfl⟩ | ⟨g, cap, rfl, hc⟩
      · exact absurd hlt (Nat.not_lt_zero _)
      · have hcell := hc i hlt
        clear hc
        have hlt' : (i : Int) < (xs.length : Int) := by omega
        go_enter Ybad.func13, Ybad.ntmps13
        go_wp2_with first
          | (go_at_call 15; refine (HC.out _ rfl).mono ?_; rintro e w' ⟨rfl, m, rfl⟩)
          | (go_at_call 18; refine (HB.out _ (HV.out.drewN _)).mono ?_; rintro e w' ⟨rfl, rfl⟩)
        go_ret
        exact ⟨by rw [HR.out]; rfl, _, rfl⟩
    · have HR : Hid (pickV xs i true = -1) := by
        show pickV xs i true = -1
        simp [pickV, hlt]
      obtain ⟨o, cap, rfl⟩ := hv.shape
      obtain rfl : i = xs.length := by omega
      clear hv
      go_enter Ybad.func13, Ybad.ntmps13
      go_wp2_with first
        | (go_at_call 15; refine (HC.out _ rfl).mono ?_; rintro e w' ⟨rfl, m, rfl⟩)
        | (go_at_call 18; refine (HB.out _ (HV.out.drewN _)).mono ?_; rintro e w' ⟨rfl, rfl⟩)
      go_ret
      exact ⟨by rw [HR.out]; rfl, _, rfl⟩
  | false =>
    by_cases hlt : 0 < i
    · obtain ⟨j, rfl⟩ : ∃ j, i = j + 1 := ⟨i - 1, by omega⟩
      have hj : j < xs.length := by omega
      have HR : Hid (pickV xs (j + 1) false = xs[j]) := by
        show pickV xs (j + 1) false = xs[j]
        simp [pickV, hj]
      rcases hv with ⟨rfl, rfl⟩ | ⟨g, cap, rfl, hc⟩
      · exact absurd hj (Nat.not_lt_zero _)
      · have hcell := hc j hj
        clear hc
        have e1 : ((j + 1 : Nat) : Int) - 1 = (j : Int) := by omega
        go_enter Ybad.func13, Ybad.ntmps13
        go_wp2_with first
          | (go_at_call 15; refine (HC.out _ rfl).mono ?_; rintro e w' ⟨rfl, m, rfl⟩)
          | (go_at_call 18; refine (HB.out _ (HV.out.drewN _)).mono ?_; rintro e w' ⟨rfl, rfl⟩)
        go_ret
        exact ⟨by rw [HR.out]; rfl, _, rfl⟩
    · obtain rfl : i = 0 := by omega
      have HR : Hid (pickV xs 0 false = -1) := by
        show pickV xs 0 false = -1
        simp [pickV]
      obtain ⟨o, cap, rfl⟩ := hv.shape
      clear hv
      go_enter Ybad.func13, Ybad.ntmps13
      go_wp2_with first
        | (go_at_call 15; refine (HC.out _ rfl).mono ?_; rintro e w' ⟨rfl, m, rfl⟩)
        | (go_at_call 18; refine (HB.out _ (HV.out.drewN _)).mono ?_; rintro e w' ⟨rfl, rfl⟩)
      go_ret
      exact ⟨by rw [HR.out]; rfl, _, rfl⟩

set_option maxHeartbeats 400000 in
set_option maxRecDepth 100000 in
theorem nearest_any (S U N : Nat) (P R : Nat → Nat → Nat → Bool) (u : Int) (l : Nat) (rest right : Bool) (w : World) (h : St S U N P R w) (hN : N ≤ 64) (hd : ∀ p, (if rest then R else P) l p p = false) (hu : u = -1 ∨ (0 ≤ u ∧ u < N)) (h1 : 1 ≤ l) (h4 : l < 4) :
    Calls Ybad.prog 13 #[.pointer (some ⟨S, 0, none⟩), .int .i32 u, .int .i64 l, .bool rest, .bool right] w fun e w' => e = .returned (.int .i32 (nbV ((if rest then R else P) l u.toNat) N u right)) ∧ ∃ m, w' = w.drewN m := by
  by_cases hn : u = -1
  · subst hn
    rw [nbV_neg]
    go_enter Ybad.func13, Ybad.ntmps13
    go_wp2
    go_ret
    exact ⟨rfl, 0, rfl⟩
  · obtain ⟨p, rfl⟩ : ∃ p : Nat, u = p := ⟨u.toNat, by omega⟩
    have hp : p < N := by omega
    obtain ⟨v, hv, hc⟩ := nbrs_det S U N P R p l rest w h hp h1 h4
    have hnot : (p : Int) ∉ nbs ((if rest then R else P) l p) N := fun hm => by
      obtain ⟨b, _, hb, e⟩ := nbs_mem.1 hm
      obtain rfl : p = b := by omega
      rw [hd p] at hb
      cases hb
    have hlen := nbs_len ((if rest then R else P) l p) N
    obtain ⟨i, hi, hb⟩ := bsearch_det v _ (p : Int) w (by omega) (nbs_sorted _ _) hv hnot
    refine (nearest_walk S p l i rest right v _ w h1 hv hi.le (by omega) (fun _ e => e ▸ hc) ?_).mono fun e w' ⟨he, hm⟩ => ⟨?_, hm⟩
    · intro w' hv'
      refine (bsearch_any v _ (p : Int) w' (by omega) (nbs_sorted _ _) hv' hnot).mono fun e w' ⟨j, hj, he, hw⟩ => ⟨?_, hw⟩
      rw [stop_unique hi hj, he]
    · rw [he]
      have e1 := stop_right hi (hd p)
      have e2 := stop_left hi (by omega : p ≤ N)
      cases right with
      | true => simp only [pickV, if_true, e1, nbV, hn, if_false]; rfl
      | false => simp only [pickV, e2, nbV, hn, if_false]; rfl
end Go.Proofs.YbulkdogoDoor

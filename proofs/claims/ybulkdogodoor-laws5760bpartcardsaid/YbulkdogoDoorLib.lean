import Derived.Test.YbulkdogoDoorRows
import Derived.Test.YbulkdogoDoorPlain
import Derived.WalkKit
import Derived.WalkLawsBesides
import Derived.WalkSpells
import Derived.Deep.QuietTactic
import Derived.BigQuiet
import Derived.Deep.Draws
namespace Go.Proofs.YbulkdogoDoor
open Go.RowKit Pl

/-- The slice value v holds the numbers xs. -/
def IL (w : World) (v : Value) (xs : List Int) : Prop :=
  (v = .slice none 0 0 ∧ xs = []) ∨ ∃ g cap, v = .slice (some ⟨g, 0, none⟩) xs.length cap ∧ ∀ i (h : i < xs.length), w.cell? ⟨g, i, none⟩ = some (.int .i32 xs[i])
theorem IL.drewN {w : World} {v : Value} {xs : List Int} (h : IL w v xs) (n : Nat) : IL (w.drewN n) v xs := h

/-! ### slices.BinarySearch -/
set_option maxHeartbeats 400000 in
set_option maxRecDepth 100000 in
theorem less_any (a b : Int) (w : World) : Calls Ybad.prog 23 #[.int .i32 a, .int .i32 b] w fun e w' => e = .returned (.bool (decide (a < b))) ∧ w = w' := by
  go_enter Ybad.func23, Ybad.ntmps23
  go_wp2
  go_ret
  exact ⟨rfl, rfl⟩

set_option maxHeartbeats 400000 in
set_option maxRecDepth 100000 in
theorem bsearch_some (g cap : Nat) (xs : List Int) (u : Int) (w : World) (hl : xs.length ≤ 64) (hs : xs.Pairwise (· < ·)) (hc : ∀ i (h : i < xs.length), w.cell? ⟨g, i, none⟩ = some (.int .i32 xs[i])) (hu : u ∉ xs) :
    Calls Ybad.prog 18 #[.slice (some ⟨g, 0, none⟩) xs.length cap, .int .i32 u] w fun e w' => ∃ i, Stop xs u i ∧ e = .returned (.tuple #[.int .i64 i, .bool false]) ∧ w = w' := by
  have HC : Hid (∀ i (h : i < xs.length), w.cell? ⟨g, i, none⟩ = some (.int .i32 xs[i])) := hc
  clear hc
  go_enter Ybad.func18, Ybad.ntmps18
  go_wp2
  go_loop [7, 8, 9] (fun lo hi _ => ∃ l h : Nat, lo = .int .i64 l ∧ hi = .int .i64 h ∧ l ≤ h ∧ h ≤ xs.length ∧ (∀ j (hj : j < xs.length), j < l → xs[j] < u) ∧ (∀ j (hj : j < xs.length), h ≤ j → u ≤ xs[j])) (fun lo hi _ => (intOf hi).toNat - (intOf lo).toNat)
  case atStart => exact ⟨0, xs.length, rfl, rfl, Nat.zero_le _, Nat.le_refl _, fun _ _ h => absurd h (Nat.not_lt_zero _), fun j hj h => by omega⟩
  case round =>
    obtain ⟨l, h, rfl, rfl, hlh, hhl, hlo, hhi⟩ := hrel
    have HLO : Hid (∀ j (hj : j < xs.length), j < l → xs[j] < u) := hlo
    have HHI : Hid (∀ j (hj : j < xs.length), h ≤ j → u ≤ xs[j]) := hhi
    clear hlo hhi
    by_cases hlt : l < h
    · obtain ⟨m, hm⟩ : ∃ m : Nat, m = (l + h) / 2 := ⟨_, rfl⟩
      have e1 : ((l : Int) + h) / 2 = (m : Int) := by omega
      have hm1 : l ≤ m := by omega
      have hm2 : m < h := by omega
      have hmx : m < xs.length := by omega
      have e2 := HC.out m hmx
      have HM : Hid (m = (l + h) / 2) := hm
      clear hm
      by_cases hx : xs[m] < u
      · go_wp2_with (go_at_call 23; refine (less_any _ _ _).mono ?_; rintro e w' ⟨rfl, rfl⟩)
        go_round
        case rel =>
          exact ⟨m + 1, h, by go_num, rfl, by omega, hhl, fun j hj hjm => by
            by_cases hjl : j = m
            · subst hjl; exact hx
            · exact Int.lt_trans (List.pairwise_iff_getElem.1 hs j m hj hmx (by omega)) hx, HHI.out⟩
        case measure => simp [intOf]; omega
      · go_wp2_with (go_at_call 23; refine (less_any _ _ _).mono ?_; rintro e w' ⟨rfl, rfl⟩)
        go_round
        case rel =>
          exact ⟨l, m, rfl, rfl, by omega, by omega, HLO.out, fun j hj hjm => by
            by_cases hjl : j = m
            · subst hjl; omega
            · have := List.pairwise_iff_getElem.1 hs m j hmx hj (by omega); omega⟩
        case measure => simp [intOf]; omega
    · obtain rfl : l = h := by omega
      have hst : Stop xs u l := ⟨hhl, HLO.out, HHI.out⟩
      by_cases hll : l < xs.length
      · have e2 := HC.out l hll
        have hne : (xs[l] == u) = false := beq_eq_false_iff_ne.2 fun e => hu (e ▸ List.getElem_mem hll)
        go_wp2
        go_ret2
        exact ⟨l, hst, rfl, rfl⟩
      · go_wp2
        go_ret2
        exact ⟨l, hst, rfl, rfl⟩

theorem bsearch_any (v : Value) (xs : List Int) (u : Int) (w : World) (hl : xs.length ≤ 64) (hs : xs.Pairwise (· < ·)) (hv : IL w v xs) (hu : u ∉ xs) :
    Calls Ybad.prog 18 #[v, .int .i32 u] w fun e w' => ∃ i, Stop xs u i ∧ e = .returned (.tuple #[.int .i64 i, .bool false]) ∧ w = w' := by
  rcases hv with ⟨rfl, rfl⟩ | ⟨g, cap, rfl, hc⟩
  · go_enter Ybad.func18, Ybad.ntmps18
    go_wp2
    refine wp_loop_rounds 1 ?_
    rw [rounds_succ]
    go_wp2
    go_ret2
    exact ⟨0, ⟨Nat.le_refl _, fun _ _ h => absurd h (Nat.not_lt_zero _), fun _ h => absurd h (Nat.not_lt_zero _)⟩, rfl, rfl⟩
  · exact bsearch_some g cap xs u w hl hs hc hu

/-! ### the law's own readers of a matrix -/
/-- Block b holds the four times sixty-four times sixty-four bools M. -/
def MatAt (w : World) (b : Nat) (M : Nat → Nat → Nat → Bool) : Prop := ∀ l p q, l < 4 → p < 64 → q < 64 → w.cell? ⟨b, l * 4096 + p * 64 + q, none⟩ = some (.bool (M l p q))

set_option maxHeartbeats 400000 in
set_option maxRecDepth 100000 in
theorem prom_any (b N l : Nat) (u : Int) (M : Nat → Nat → Nat → Bool) (w : World) (hM : MatAt w b M) (hN : N ≤ 64) (hl : l < 4) (hu : u = -1 ∨ (0 ≤ u ∧ u < N)) :
    Calls Ybad.prog 5 #[.pointer (some ⟨b, 0, none⟩), .int .i32 N, .int .i32 u, .int .i64 l] w fun e w' => e = .returned (.bool (promV (M l u.toNat) N u)) ∧ w = w' := by
  by_cases hn : u = -1
  · subst hn
    go_enter Ybad.func5, Ybad.ntmps5
    go_wp2
    go_ret
    exact ⟨rfl, rfl⟩
  · obtain ⟨p, rfl⟩ : ∃ p : Nat, u = p := ⟨u.toNat, by omega⟩
    have hp : p < N := by omega
    have hne : ((p : Int) == -1) = false := beq_eq_false_iff_ne.2 hn
    have e : promV (M l (p : Int).toNat) N p = anyV (M l p) N := by simp [promV, hn]
    rw [e]
    have HM : Hid (MatAt w b M) := hM
    clear hu hM e
    go_enter Ybad.func5, Ybad.ntmps5
    go_wp2
    go_loop [9] (fun t => ∃ k : Nat, k ≤ N ∧ t = .int .i32 k ∧ ∀ c, c < k → M l p c = false) (fun t => N - (intOf t).toNat)
    case atStart => exact ⟨0, Nat.zero_le _, rfl, fun _ h => absurd h (Nat.not_lt_zero _)⟩
    case round =>
      obtain ⟨k, hk, rfl, hno⟩ := hrel
      have HNO : Hid (∀ c, c < k → M l p c = false) := hno
      clear hno
      by_cases hlt : k < N
      · have hcell := HM.out l p k hl (by omega) (by omega)
        cases hv : M l p k with
        | true =>
          rw [hv] at hcell
          have hany := anyV_true (N := N) hlt hv
          clear hv
          go_wp2
          go_ret
          exact ⟨rfl, rfl⟩
        | false =>
          rw [hv] at hcell
          have HV : Hid (M l p k = false) := hv
          clear hv
          go_wp2
          go_round
          case rel => exact ⟨k + 1, by omega, by go_num, fun c hc => by
            by_cases e : c = k
            · subst e; exact HV.out
            · exact HNO.out c (by omega)⟩
          case measure => simp [intOf]; omega
      · obtain rfl : k = N := by omega
        have hany := anyV_false HNO.out
        go_wp2
        go_ret
        exact ⟨rfl, rfl⟩

theorem nbV_neg (M : Nat → Bool) (N : Nat) (r : Bool) : nbV M N (-1) r = -1 := by simp [nbV]

set_option maxHeartbeats 400000 in
set_option maxRecDepth 100000 in
theorem nb_any (b N l : Nat) (u : Int) (right : Bool) (M : Nat → Nat → Nat → Bool) (w : World) (hM : MatAt w b M) (hN : N ≤ 64) (hl : l < 4) (hu : u = -1 ∨ (0 ≤ u ∧ u < N)) :
    Calls Ybad.prog 6 #[.pointer (some ⟨b, 0, none⟩), .int .i32 N, .int .i32 u, .int .i64 l, .bool right] w fun e w' => e = .returned (.int .i32 (nbV (M l u.toNat) N u right)) ∧ w = w' := by
  by_cases hn : u = -1
  · subst hn
    rw [nbV_neg]
    go_enter Ybad.func6, Ybad.ntmps6
    go_wp2
    go_ret
    exact ⟨rfl, rfl⟩
  · obtain ⟨p, rfl⟩ : ∃ p : Nat, u = p := ⟨u.toNat, by omega⟩
    have hp : p < N := by omega
    have hne : ((p : Int) == -1) = false := beq_eq_false_iff_ne.2 hn
    have HM : Hid (MatAt w b M) := hM
    cases right with
    | true =>
      have e : nbV (M l (p : Int).toNat) N p true = above (M l p) N (p + 1) := by simp [nbV, hn]
      rw [e]
      clear hu hM e
      go_enter Ybad.func6, Ybad.ntmps6
      go_wp2
      go_loop [11] (fun t => ∃ k : Nat, p + 1 ≤ k ∧ k ≤ N ∧ t = .int .i32 k ∧ above (M l p) N (p + 1) = above (M l p) N k) (fun t => N - (intOf t).toNat)
      case atStart => exact ⟨p + 1, Nat.le_refl _, by omega, by go_num, rfl⟩
      case round =>
        obtain ⟨k, hk1, hk, rfl, hab⟩ := hrel
        have HAB : Hid (above (M l p) N (p + 1) = above (M l p) N k) := hab
        clear hab
        by_cases hlt : k < N
        · have hcell := HM.out l p k hl (by omega) (by omega)
          cases hv : M l p k with
          | true =>
            rw [hv] at hcell
            have hres : above (M l p) N (p + 1) = (k : Int) := by rw [HAB.out, above_hit hlt hv]
            have HRES : Hid (above (M l p) N (p + 1) = (k : Int)) := hres
            clear hv hres
            go_wp2
            go_ret
            exact ⟨by rw [HRES.out]; rfl, rfl⟩
          | false =>
            rw [hv] at hcell
            have HV : Hid (M l p k = false) := hv
            clear hv
            go_wp2
            go_round
            case rel => exact ⟨k + 1, by omega, by omega, by go_num, by rw [HAB.out, above_step hlt HV.out]⟩
            case measure => simp [intOf]; omega
        · have HRES : Hid (above (M l p) N (p + 1) = -1) := by
            show above (M l p) N (p + 1) = -1
            rw [HAB.out, above_end (by omega)]
          go_wp2
          go_ret
          exact ⟨by rw [HRES.out]; rfl, rfl⟩
    | false =>
      have e : nbV (M l (p : Int).toNat) N p false = below (M l p) p := by simp [nbV, hn]
      rw [e]
      clear hu hM e
      go_enter Ybad.func6, Ybad.ntmps6
      go_wp2
      go_loop [12] (fun t => ∃ k : Nat, k ≤ p ∧ t = .int .i32 ((k : Int) - 1) ∧ below (M l p) p = below (M l p) k) (fun t => (intOf t + 1).toNat)
      case atStart => exact ⟨p, Nat.le_refl _, by go_num, rfl⟩
      case round =>
        obtain ⟨k, hk, rfl, hab⟩ := hrel
        have HAB : Hid (below (M l p) p = below (M l p) k) := hab
        clear hab
        by_cases hlt : 1 ≤ k
        · obtain ⟨j, rfl⟩ : ∃ j, k = j + 1 := ⟨k - 1, by omega⟩
          have hcell := HM.out l p j hl (by omega) (by omega)
          have ej : ((j + 1 : Nat) : Int) - 1 = (j : Int) := by omega
          rw [ej]
          cases hv : M l p j with
          | true =>
            rw [hv] at hcell
            have HRES : Hid (below (M l p) p = (j : Int)) := by
              show below (M l p) p = (j : Int)
              rw [HAB.out, below_hit hv]
            clear hv
            go_wp2
            go_ret
            exact ⟨by rw [HRES.out]; rfl, rfl⟩
          | false =>
            rw [hv] at hcell
            have HV : Hid (M l p j = false) := hv
            clear hv
            go_wp2
            go_round
            case rel => exact ⟨j, by omega, by go_num, by rw [HAB.out, below_step HV.out]⟩
            case measure => simp [intOf]
        · obtain rfl : k = 0 := by omega
          have HRES : Hid (below (M l p) p = -1) := HAB.out
          go_wp2
          go_ret
          exact ⟨by rw [HRES.out]; rfl, rfl⟩

end Go.Proofs.YbulkdogoDoor

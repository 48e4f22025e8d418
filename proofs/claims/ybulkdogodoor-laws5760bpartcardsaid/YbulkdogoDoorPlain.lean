/- THE PLAIN LAW of sim.LawS5760BPart: neighbours off a matrix's row and off the sorted list of its set columns. No Go in sight. -/
namespace Go.Proofs.YbulkdogoDoor.Pl

/-- The greatest set column below k, or -1. -/
def below (M : Nat → Bool) : Nat → Int
  | 0 => -1
  | k + 1 => if M k then k else below M k
/-- The least set column from b on, within fuel columns, or -1. -/
def aboveF (M : Nat → Bool) : Nat → Nat → Int
  | 0, _ => -1
  | f + 1, b => if M b then b else aboveF M f (b + 1)
def above (M : Nat → Bool) (N b : Nat) : Int := aboveF M (N - b) b
/-- u's nearest neighbour in the row M on the right or the left. -/
def nbV (M : Nat → Bool) (N : Nat) (u : Int) (right : Bool) : Int :=
  if u = -1 then -1 else if right then above M N (u.toNat + 1) else below M u.toNat
def anyV (M : Nat → Bool) (N : Nat) : Bool := (List.range N).any M
def promV (M : Nat → Bool) (N : Nat) (u : Int) : Bool := if u = -1 then false else anyV M N
/-- The sorted list of the row's set columns. -/
def nbs (M : Nat → Bool) (N : Nat) : List Int := ((List.range N).filter M).map fun b : Nat => (b : Int)

theorem above_step {M : Nat → Bool} {N b : Nat} (h : b < N) (hM : M b = false) : above M N b = above M N (b + 1) := by
  unfold above
  rw [show N - b = (N - (b + 1)) + 1 by omega, aboveF, hM]
  rfl
theorem above_hit {M : Nat → Bool} {N b : Nat} (h : b < N) (hM : M b = true) : above M N b = b := by
  unfold above
  rw [show N - b = (N - (b + 1)) + 1 by omega, aboveF, hM]
  rfl
theorem above_end {M : Nat → Bool} {N b : Nat} (h : N ≤ b) : above M N b = -1 := by
  unfold above
  rw [show N - b = 0 by omega]
  rfl
theorem below_step {M : Nat → Bool} {k : Nat} (hM : M k = false) : below M (k + 1) = below M k := by
  rw [below, hM]; rfl
theorem below_hit {M : Nat → Bool} {k : Nat} (hM : M k = true) : below M (k + 1) = k := by
  rw [below, hM]; rfl

theorem above_some {M : Nat → Bool} {N c : Nat} (hc : c < N) (hM : M c = true) : ∀ n b, c - b = n → b ≤ c → (∀ d, b ≤ d → d < c → M d = false) → above M N b = c
  | 0, b, h, hb, _ => by
    obtain rfl : b = c := by omega
    exact above_hit hc hM
  | n + 1, b, h, hb, hn => by
    rw [above_step (by omega) (hn b (Nat.le_refl _) (by omega))]
    exact above_some hc hM n (b + 1) (by omega) (by omega) fun d h1 h2 => hn d (by omega) h2
theorem above_none {M : Nat → Bool} {N : Nat} : ∀ n b, N - b = n → (∀ d, b ≤ d → d < N → M d = false) → above M N b = -1
  | 0, b, h, _ => above_end (by omega)
  | n + 1, b, h, hn => by
    rw [above_step (by omega) (hn b (Nat.le_refl _) (by omega))]
    exact above_none n (b + 1) (by omega) fun d h1 h2 => hn d (by omega) h2
theorem below_some {M : Nat → Bool} {c : Nat} (hM : M c = true) : ∀ k, c < k → (∀ d, c < d → d < k → M d = false) → below M k = c
  | 0, h, _ => by omega
  | k + 1, h, hn => by
    by_cases e : k = c
    · subst e; exact below_hit hM
    · rw [below_step (hn k (by omega) (by omega))]
      exact below_some hM k (by omega) fun d h1 h2 => hn d h1 (by omega)
theorem below_none {M : Nat → Bool} : ∀ k, (∀ d, d < k → M d = false) → below M k = -1
  | 0, _ => rfl
  | k + 1, hn => by
    rw [below_step (hn k (by omega))]
    exact below_none k fun d h => hn d (by omega)

theorem nbs_mem {M : Nat → Bool} {N : Nat} {x : Int} : x ∈ nbs M N ↔ ∃ b : Nat, b < N ∧ M b = true ∧ x = b := by
  unfold nbs
  simp only [List.mem_map, List.mem_filter, List.mem_range]
  constructor
  · rintro ⟨b, ⟨h1, h2⟩, rfl⟩; exact ⟨b, h1, h2, rfl⟩
  · rintro ⟨b, h1, h2, rfl⟩; exact ⟨b, ⟨h1, h2⟩, rfl⟩
theorem nbs_sorted (M : Nat → Bool) (N : Nat) : (nbs M N).Pairwise (· < ·) := by
  unfold nbs
  rw [List.pairwise_map]
  exact (List.Pairwise.filter _ List.pairwise_lt_range).imp fun h => by omega
theorem nbs_len (M : Nat → Bool) (N : Nat) : (nbs M N).length ≤ N := by
  unfold nbs
  rw [List.length_map]
  exact Nat.le_trans (List.length_filter_le _ _) (by simp)
theorem nbs_snoc (M : Nat → Bool) (k : Nat) : nbs M (k + 1) = nbs M k ++ (if M k then [(k : Int)] else []) := by
  unfold nbs
  rw [List.range_succ, List.filter_append, List.map_append]
  congr 1
  cases h : M k <;> simp [h]
theorem nbs_lt {M : Nat → Bool} {N i j : Nat} (hij : i < j) (hj : j < (nbs M N).length) : (nbs M N)[i] < (nbs M N)[j] :=
  List.pairwise_iff_getElem.1 (nbs_sorted M N) i j (by omega) hj hij
theorem nbs_get {M : Nat → Bool} {N i : Nat} (hi : i < (nbs M N).length) : ∃ b : Nat, b < N ∧ M b = true ∧ (nbs M N)[i] = b :=
  nbs_mem.1 (List.getElem_mem hi)
theorem nbs_idx {M : Nat → Bool} {N d : Nat} (hd : d < N) (hM : M d = true) : ∃ j, ∃ h : j < (nbs M N).length, (nbs M N)[j] = d := by
  obtain ⟨j, h, e⟩ := List.getElem_of_mem (nbs_mem.2 ⟨d, hd, hM, rfl⟩)
  exact ⟨j, h, e⟩
theorem anyV_iff {M : Nat → Bool} {N : Nat} : anyV M N = decide (0 < (nbs M N).length) := by
  unfold anyV
  cases h : (List.range N).any M with
  | true =>
    obtain ⟨b, h1, h2⟩ := List.any_eq_true.1 h
    have := nbs_mem.2 ⟨b, by simpa using h1, h2, rfl⟩
    have := List.length_pos_of_mem this
    simp [this]
  | false =>
    have : nbs M N = [] := by
      apply List.eq_nil_iff_forall_not_mem.2
      intro x hx
      obtain ⟨b, h1, h2, rfl⟩ := nbs_mem.1 hx
      have := List.any_eq_false.1 h b (by simpa using h1)
      exact this h2
    simp [this]
theorem anyV_false {M : Nat → Bool} {N : Nat} (h : ∀ b, b < N → M b = false) : anyV M N = false := by
  unfold anyV
  rw [List.any_eq_false]
  intro b hb
  rw [h b (by simpa using hb)]
  simp
theorem anyV_true {M : Nat → Bool} {N b : Nat} (h : b < N) (hM : M b = true) : anyV M N = true := by
  unfold anyV
  exact List.any_eq_true.2 ⟨b, by simpa using h, hM⟩

/-- Where binary search stops in the sorted list. -/
structure Stop (xs : List Int) (u : Int) (i : Nat) : Prop where
  le : i ≤ xs.length
  lo : ∀ j (h : j < xs.length), j < i → xs[j] < u
  hi : ∀ j (h : j < xs.length), i ≤ j → u ≤ xs[j]

theorem stop_right {M : Nat → Bool} {N i : Nat} {u : Nat} (hs : Stop (nbs M N) u i) (hu : M u = false) : (if h : i < (nbs M N).length then (nbs M N)[i] else -1) = above M N (u + 1) := by
  split
  · rename_i h
    obtain ⟨c, hc, hM, e⟩ := nbs_get h
    have h1 := hs.hi i h (Nat.le_refl _)
    have hne : c ≠ u := fun e' => by rw [e', hu] at hM; cases hM
    rw [e] at h1 ⊢
    refine (above_some hc hM _ (u + 1) rfl (by omega) fun d hd1 hd2 => ?_).symm
    cases hMd : M d with
    | false => rfl
    | true =>
      obtain ⟨j, hj, ej⟩ := nbs_idx (N := N) (by omega) hMd
      by_cases hji : j < i
      · have := hs.lo j hj hji; omega
      · by_cases hje : j = i
        · subst hje; omega
        · have := nbs_lt (M := M) (N := N) (i := i) (j := j) (by omega) hj; omega
  · rename_i h
    refine (above_none _ (u + 1) rfl fun d hd1 hd2 => ?_).symm
    cases hMd : M d with
    | false => rfl
    | true =>
      obtain ⟨j, hj, ej⟩ := nbs_idx hd2 hMd
      have := hs.lo j hj (by have := hs.le; omega)
      omega

theorem stop_left {M : Nat → Bool} {N i : Nat} {u : Nat} (hs : Stop (nbs M N) u i) (huN : u ≤ N) : (if h : 0 < i ∧ i - 1 < (nbs M N).length then (nbs M N)[i - 1]'h.2 else -1) = below M u := by
  split
  · rename_i h
    obtain ⟨c, hc, hM, e⟩ := nbs_get h.2
    have h1 := hs.lo (i - 1) h.2 (by omega)
    rw [e] at h1 ⊢
    refine (below_some hM u (by omega) fun d hd1 hd2 => ?_).symm
    cases hMd : M d with
    | false => rfl
    | true =>
      obtain ⟨j, hj, ej⟩ := nbs_idx (N := N) (by omega) hMd
      by_cases hji : i ≤ j
      · have := hs.hi j hj hji; omega
      · by_cases hje : j = i - 1
        · subst hje; omega
        · have := nbs_lt (M := M) (N := N) (i := j) (j := i - 1) (by omega) h.2; omega
  · rename_i h
    refine (below_none u fun d hd => ?_).symm
    cases hMd : M d with
    | false => rfl
    | true =>
      obtain ⟨j, hj, ej⟩ := nbs_idx (N := N) (by omega) hMd
      have hl := hs.le
      by_cases hji : i ≤ j
      · have := hs.hi j hj hji; omega
      · omega

end Go.Proofs.YbulkdogoDoor.Pl

import Derived.Test.YbulkdogoDoorState
import Derived.Laws.EntriesVeiled
namespace Go.Proofs.YbulkdogoDoor
open Go.RowKit Pl

theorem aboveF_rng {M : Nat → Bool} : ∀ f b, aboveF M f b = -1 ∨ (0 ≤ aboveF M f b ∧ aboveF M f b < ((b + f : Nat) : Int))
  | 0, _ => .inl rfl
  | f + 1, b => by
    unfold aboveF
    split
    · right; omega
    · rcases aboveF_rng (M := M) f (b + 1) with h | h
      · exact .inl h
      · right; omega
theorem below_rng {M : Nat → Bool} : ∀ k, below M k = -1 ∨ (0 ≤ below M k ∧ below M k < (k : Int))
  | 0 => .inl rfl
  | k + 1 => by
    unfold below
    split
    · right; omega
    · rcases below_rng (M := M) k with h | h
      · exact .inl h
      · right; omega
theorem nbV_rng {M : Nat → Bool} {N : Nat} {u : Int} {r : Bool} (hu : u = -1 ∨ (0 ≤ u ∧ u < N)) : nbV M N u r = -1 ∨ (0 ≤ nbV M N u r ∧ nbV M N u r < N) := by
  unfold nbV
  split
  · exact .inl rfl
  · split
    · unfold above
      rcases aboveF_rng (M := M) (N - (u.toNat + 1)) (u.toNat + 1) with h | h
      · exact .inl h
      · right; omega
    · rcases below_rng (M := M) u.toNat with h | h
      · exact .inl h
      · right; omega

set_option maxHeartbeats 400000 in
set_option maxRecDepth 100000 in
theorem moves_any (S U N : Nat) (P R : Nat → Nat → Nat → Bool) (u l T : Nat) (w : World) (h : St S U N P R w) (hu : u < N) (h1 : 1 ≤ l) (h4 : l < 4) (hno : nbs (P l u) N = []) :
    Calls Ybad.prog 10 #[.pointer (some ⟨S, 0, none⟩), .slice (some ⟨T, 0, none⟩) 1 1, .int .i32 u, .int .i64 l, .bool false, .func (.func 11) #[] #[]] w fun e w' => e = .returned (.slice (some ⟨T, 0, none⟩) 1 1) ∧ ∃ m, w' = w.drewN m := by
  obtain ⟨v, hv, hc⟩ := nbrs_det S U N P R u l false w h hu h1 h4
  obtain ⟨o, cap, rfl⟩ := hv.shape
  have HC : Hid (∀ w' : World, w' = w → Calls Ybad.prog 15 #[.pointer (some ⟨S, 0, none⟩), .int .i32 u, .int .i64 l, .bool false] w' fun e w' => e = .returned (.slice o 0 cap) ∧ ∃ m, w' = w.drewN m) := fun _ e => by
    subst e
    refine hc.mono fun e w' ⟨he, hm⟩ => ⟨?_, hm⟩
    rw [he]
    show Ending.returned (Value.slice o (nbs (P l u) N).length cap) = _
    rw [hno]
    rfl
  clear hv hc h hno
  go_enter Ybad.func10, Ybad.ntmps10
  go_wp2_with (go_at_call 15; refine (HC.out _ rfl).mono ?_; rintro e w' ⟨rfl, m, rfl⟩)
  refine wp_loop_rounds 1 ?_
  rw [rounds_succ]
  go_wp2
  go_ret
  exact ⟨rfl, _, rfl⟩

set_option maxHeartbeats 400000 in
set_option maxRecDepth 100000 in
theorem edit_any (S U N : Nat) (P R : Nat → Nat → Nat → Bool) (u l T : Nat) (w : World) (h : St S U N P R w) (hu : u < N) (h1 : 1 ≤ l) (h4 : l < 4) (hno : nbs (P l u) N = []) :
    Calls Ybad.prog 9 #[.pointer (some ⟨S, 0, none⟩), .int .i32 u, .int .i64 l, .slice (some ⟨T, 0, none⟩) 1 1] w fun e w' => e = .returned (.slice (some ⟨T, 0, none⟩) 1 1) ∧ ∃ m, w' = w.drewN m := by
  have HST : Hid (St S U N P R w) := h
  have HNO : Hid (nbs (P l u) N = []) := hno
  clear h hno
  go_enter Ybad.func9, Ybad.ntmps9
  go_wp2_with (go_at_call 10; refine (moves_any S U N P R u l T _ HST.out hu h1 h4 HNO.out).mono ?_; rintro e w' ⟨rfl, m, rfl⟩)
  go_ret
  exact ⟨rfl, _, rfl⟩

set_option maxHeartbeats 400000 in
set_option maxRecDepth 100000 in
theorem rule_any (s : ByteArray) (w : World) : Calls Ybad.prog 4 #[.string s] w fun e w' => e = .returned (.agg #[.string s, .bool true, .func (.func 7) #[] #[], .func (.func 9) #[] #[]]) ∧ ∃ O, w' = w.alloc O := by
  go_enter Ybad.func4, Ybad.ntmps4
  go_wp2
  refine bodyPost_ret (v := .agg #[.string s, .bool true, .func (.func 7) #[] #[], .func (.func 9) #[] #[]]) (by simp [results, Ybad.results4, go_sem]) rfl ?_
  exact ⟨rfl, _, rfl⟩
end Go.Proofs.YbulkdogoDoor

import Derived.Test.YbulkdogoWalks
import Derived.Laws.OwnMore
import Derived.WalkSpells
import Derived.Deep.DeepMust
namespace Go.Proofs.Ybulkdogo.lawS5760AWhole
open Go.RowKit

theorem info23 : (Yba.prog.info? 23).map (fun i => (i.zero, i.size, i.bytes)) = some (some (.int .u64 0), 1, 8) := by kernel_rfl

/-! ### slices.Clone -/
theorem clone_end {w w1 : World} {n : Nat} {zs : List Int} {v' : Value} (h1 : 1 ≤ n) (hl : n ≤ zs.length)
    (hown : w1.ownsRow w.heap.size 23 1 v' (0 + n) ([] ++ (zs.take n).map (Value.int .u64))) (hgrow : (w.alloc (.cells #[] 23)).grownBy w1 (Value.slice (some ⟨w.heap.size, 0, none⟩) 0 0).ownBlock) :
    ∃ g cap', v' = .slice (some ⟨g, 0, none⟩) n cap' ∧ (∀ i, i < n → w1.cell? ⟨g, i, none⟩ = some (.int .u64 (zs.getD i 0))) ∧ w.heap.size ≤ g ∧ g < w1.heap.size ∧ Below w.heap.size w w1 := by
  have hcells := fun {g} => hown.cells (g := g)
  have hlt := hown.lt
  rcases hown.2 with ⟨_, h0⟩ | ⟨g, cap', cur, rfl, hbg, hg, hnc, _, _, _⟩
  · omega
  · refine ⟨g, cap', by simp, ?_, hbg, (hlt g rfl).2, ((Below.refl _ _).alloc (Nat.le_refl _) _).grown hgrow (by simp) (fun k hk => by simp [Value.ownBlock] at hk; omega)⟩
    intro i hi
    have := hcells (g := g) rfl i (.int .u64 (zs.getD i 0)) (by
      rw [List.nil_append, List.getElem?_map, List.getElem?_take, if_pos hi, List.getD_eq_getElem?_getD, List.getElem?_eq_getElem (by omega)]
      rfl)
    have hadd : (⟨g, 0, none⟩ : Addr).add i = ⟨g, i, none⟩ := by unfold Addr.add; split <;> simp_all
    rw [hadd] at this
    exact this

set_option maxHeartbeats 400000 in
set_option maxRecDepth 100000 in
theorem clone_any (x : Addr) (n cap : Nat) (zs : List Int) (w : World) (h1 : 1 ≤ n) (h2 : n ≤ 1048576) (hl : n ≤ zs.length) (hc : ∀ i, i < zs.length → w.cell? (x.add i) = some (.int .u64 (zs.getD i 0))) (hx : x.block < w.heap.size) :
    Calls Yba.prog 5 #[.slice (some x) n cap] w fun e w' => ∃ g cap', e = .returned (.slice (some ⟨g, 0, none⟩) n cap') ∧ (∀ i, i < n → w'.cell? ⟨g, i, none⟩ = some (.int .u64 (zs.getD i 0))) ∧ w.heap.size ≤ g ∧ g < w'.heap.size ∧ Below w.heap.size w w' := by
  obtain ⟨i0, hi, hz0, hz1, hz2⟩ := info_parts info23
  have hnil := fun w => Lib.run_eql_slice_nil (P := Yba.prog) w 22 23 (some x) n cap 0 0 Yba.underlying22
  have hown : (w.alloc (.cells #[] 23)).ownsRow w.heap.size 23 1 (.slice (some ⟨w.heap.size, 0, none⟩) 0 0) 0 [] := World.ownsRow_made w #[] 0 (Nat.le_refl _) (by decide) (by simp)
  have hnews : ∀ (j : Nat) (v : Value), ((zs.take n).map (Value.int .u64))[j]? = some v → (w.alloc (.cells #[] 23)).cell? (x.add j) = some v := by
    intro j v hj
    have hjn : j < n := by
      have := (List.getElem?_eq_some_iff.1 hj).1
      simp at this
      omega
    have hb : (x.add j).block < w.heap.size := by unfold Addr.add; split <;> exact hx
    rw [World.cell?_alloc_lt _ _ _ hb, hc j (by omega)]
    rw [List.getElem?_map, List.getElem?_take, if_pos hjn] at hj
    rw [List.getD_eq_getElem?_getD]
    cases hz : zs[j]? with
    | none => rw [hz] at hj; cases hj
    | some z => rw [hz] at hj; simpa using hj
  have hone : ∀ u ∈ (zs.take n).map (Value.int .u64), u.oneCell' = true := by
    intro u hu
    obtain ⟨z, _, rfl⟩ := List.mem_map.1 hu
    rfl
  have hlen : ((zs.take n).map (Value.int .u64)).length = n * 1 := by simp; omega
  go_enter Yba.func5, Yba.ntmps5
  go_wp2_with (first | (at_builtin; go_must (refine wpList_append_own _ rfl _ _ 22 rfl w.heap.size 23 i0 (.int .u64 0) 1 8 Yba.underlying22 hi hz0 hz1 hz2 rfl (by decide) _ 0 [] rfl hown x n cap ((zs.take n).map (Value.int .u64)) rfl hlen hnews hone (by unfold maxLen; omega) (by omega) (by simp) ?_); intro v' w1 hown' hgrow _))
  obtain ⟨g, cap', rfl, hcc, hg1, hg2, hbel⟩ := clone_end h1 hl hown' hgrow
  go_ret
  exact ⟨g, cap', rfl, hcc, hg1, hg2, hbel⟩

/-! ### slices.Equal -/
set_option maxHeartbeats 400000 in
set_option maxRecDepth 100000 in
theorem equal_any (x y : Addr) (n cap cap' : Nat) (zs : List Int) (w : World) (h2 : n ≤ 1048576) (hc : ∀ i, i < n → w.cell? (x.add i) = some (.int .u64 (zs.getD i 0))) (hd : ∀ i, i < n → w.cell? (y.add i) = some (.int .u64 (zs.getD i 0))) :
    Calls Yba.prog 8 #[.slice (some x) n cap, .slice (some y) n cap'] w fun e w' => e = .returned (.bool true) ∧ ∃ m, w' = w.drewN m := by
  go_enter Yba.func8, Yba.ntmps8
  go_wp2
  go_loopw [5, 13] (fun _ i wr => ∃ k : Nat, k ≤ n ∧ i = .int .i64 k ∧ ∃ m, wr = w.drewN m) (fun _ i _ => n - (intOf i).toNat)
  case atStart => exact ⟨0, Nat.zero_le _, rfl, 0, rfl⟩
  case round =>
    obtain ⟨k, hk, rfl, m, rfl⟩ := hrel
    by_cases hlt : k < n
    · have e1 := hc k hlt
      have e2 := hd k hlt
      have b1 : (k : Int) < (n : Int) := by omega
      clear hc hd
      go_wp2
      go_quiet (fail)
      go_wp2
      go_roundw
      case rel => exact ⟨k + 1, by omega, by go_num, _, rfl⟩
      case measure => simp [intOf]; omega
    · go_wp2
      go_ret
      exact ⟨rfl, _, rfl⟩
end Go.Proofs.Ybulkdogo.lawS5760AWhole

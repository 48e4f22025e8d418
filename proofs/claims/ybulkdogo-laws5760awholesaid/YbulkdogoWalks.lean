import Derived.Test.YbulkdogoRows
import Derived.WalkKit
import Derived.WalkLawsBesides
import Derived.Deep.QuietTactic
import Derived.BigQuiet
import Derived.Deep.RegionHeld3
import Derived.Deep.Draws
namespace Go.Proofs.Ybulkdogo.lawS5760AWhole
open Go.RowKit

/-! ### zzs5760apick -/
theorem pick_neg (raw n : Int) (w : World) (h : raw < 0) : Calls Yba.prog 4 #[.int .i64 raw, .int .i64 n] w fun e w' => e = .returned (.int .i32 (-1)) ∧ w' = w := by
  go_enter Yba.func4, Yba.ntmps4
  go_wp2
  go_ret
  exact ⟨rfl, rfl⟩

theorem pick_pos (raw : Int) (n : Nat) (w : World) (h0 : 0 ≤ raw) (h : raw ≤ 9223372036854775807) (h1 : 1 ≤ n) (h2 : n ≤ 1048576) : Calls Yba.prog 4 #[.int .i64 raw, .int .i64 n] w fun e w' => e = .returned (.int .i32 (raw % n)) ∧ w' = w := by
  have hw : IntKind.i32.wrap (raw % (n : Int)) = raw % n := by
    rw [IntKind.wrap_i32]
    have := Int.emod_lt_of_pos raw (show (0 : Int) < n by omega)
    have := Int.emod_nonneg raw (show (n : Int) ≠ 0 by omega)
    omega
  have hz : ¬ (n : Int) = 0 := by omega
  go_enter Yba.func4, Yba.ntmps4
  go_wp2
  go_ret
  exact ⟨rfl, rfl⟩

/-! ### toward -/
set_option maxHeartbeats 400000 in
set_option maxRecDepth 100000 in
theorem toward_any (p : Nat) (x : Addr) (n cap : Nat) (key u zu : Int) (w : World) (hp1 : w.cell? ⟨p, 1, none⟩ = some (.slice (some x) n cap)) (hp3 : w.cell? ⟨p, 3, none⟩ = some (.int .u64 key)) (hp4 : w.cell? ⟨p, 4, none⟩ = some (.int .i32 u))
    (hu0 : 0 ≤ u) (hu1 : u < n) (hc : w.cell? (x.add u.toNat) = some (.int .u64 zu)) :
    Calls Yba.prog 9 #[.pointer (some ⟨p, 0, none⟩)] w fun e w' => e = .returned (.bool (decide (zu ≤ key))) ∧ ∃ m, w' = w.drewN m := by
  go_enter Yba.func9, Yba.ntmps9
  go_wp2
  go_quiet (fail)
  go_wp2
  go_ret
  exact ⟨rfl, _, rfl⟩

/-! ### all old blocks but one are as they were -/
structure Kept (G : Nat) (w w' : World) : Prop where
  os : w'.os = w.os
  tape : w'.tape = w.tape
  output : w'.output = w.output
  size : w.heap.size ≤ w'.heap.size
  block : ∀ k, k < w.heap.size → k ≠ G → w'.heap[k]? = w.heap[k]?
theorem Kept.refl (G : Nat) (w : World) : Kept G w w := ⟨rfl, rfl, rfl, Nat.le_refl _, fun _ _ _ => rfl⟩
theorem Kept.trans {G : Nat} {a b c : World} (h : Kept G a b) (k : Kept G b c) : Kept G a c :=
  ⟨k.os.trans h.os, k.tape.trans h.tape, k.output.trans h.output, Nat.le_trans h.size k.size, fun i hi hne => (k.block i (Nat.lt_of_lt_of_le hi h.size) hne).trans (h.block i hi hne)⟩
theorem Kept.alloc {G : Nat} {a w : World} (h : Kept G a w) (o : Obj) : Kept G a (w.alloc o) :=
  h.trans ⟨rfl, rfl, rfl, by simp, fun k hk _ => Below.heap_alloc _ _ _ hk⟩
theorem Kept.drew {G : Nat} {a w : World} (h : Kept G a w) : Kept G a w.drew := ⟨h.os, h.tape, h.output, h.size, h.block⟩
theorem Kept.drewN {G : Nat} {a w : World} (h : Kept G a w) (n : Nat) : Kept G a (w.drewN n) := ⟨h.os, h.tape, h.output, h.size, h.block⟩
theorem Kept.setCell {G : Nat} {a w : World} (h : Kept G a w) (o : Nat) (v : Value) : Kept G a (w.setCell ⟨G, o, none⟩ v) :=
  h.trans ⟨rfl, rfl, rfl, by simp [World.setCell], fun k _ hne => Below.heap_setCell _ _ _ _ hne⟩
theorem Kept.cell {G : Nat} {w w' : World} (h : Kept G w w') {p : Addr} (hp : p.block < w.heap.size) (hne : p.block ≠ G) : w'.cell? p = w.cell? p := World.cell?_of_block (w := w) (h.block p.block hp hne)
theorem Kept.frozen {G : Nat} {w w' : World} (h : Kept G w w') {p : Addr} (hp : p.block < w.heap.size) (hne : p.block ≠ G) : w'.frozen? p = w.frozen? p := World.frozen?_of_block (w := w) (h.block p.block hp hne)
theorem Kept.below {G B : Nat} {w w' : World} (h : Kept G w w') (hB : B ≤ G) (hs : B ≤ w.heap.size) : Below B w w' :=
  ⟨h.os, h.tape, h.output, h.size, fun k hk => h.block k (by omega) (by omega)⟩

/-! ### near -/
/-- The log's variable L holds one call (a, lv, rt); all other old blocks are as they were. -/
def Logged (L : Nat) (a lv : Int) (rt : Bool) (w w' : World) : Prop :=
  ∃ g cap, w'.cell? ⟨L, 0, none⟩ = some (.slice (some ⟨g, 0, none⟩) 1 cap) ∧ w'.cell? ⟨g, 0, none⟩ = some (.int .i32 a) ∧ w'.cell? ⟨g, 1, none⟩ = some (.int .i64 lv) ∧ w'.cell? ⟨g, 2, none⟩ = some (.bool rt) ∧ w.heap.size ≤ g ∧ g < w'.heap.size ∧ Kept L w w'

theorem logged_mk (w : World) (L cap : Nat) (a lv : Int) (rt : Bool) (z : Array Value) (o : Obj) (hL : w.cell? ⟨L, 0, none⟩ = some (.slice none 0 0)) (l1 : L < w.heap.size) :
    Logged L a lv rt w ((((w.setCell ⟨L, 0, none⟩ (.slice (some ⟨w.heap.size + 1, 0, none⟩) 1 cap)).alloc o).alloc (.cells (#[.int .i32 a, .int .i64 lv, .bool rt] ++ z) 29)).drew) := by
  have l2 : L < w.heap.size + 1 := by omega
  have c0 : (#[.int .i32 a, .int .i64 lv, .bool rt] ++ z)[0]? = some (.int .i32 a) := by rw [Array.getElem?_append_left (by simp)]; rfl
  have c1 : (#[.int .i32 a, .int .i64 lv, .bool rt] ++ z)[1]? = some (.int .i64 lv) := by rw [Array.getElem?_append_left (by simp)]; rfl
  have c2 : (#[.int .i32 a, .int .i64 lv, .bool rt] ++ z)[2]? = some (.bool rt) := by rw [Array.getElem?_append_left (by simp)]; rfl
  refine ⟨w.heap.size + 1, cap, ?_, ?_, ?_, ?_, by omega, by simp, ((((Kept.refl L w).setCell 0 _).alloc _).alloc _).drew⟩
  · go_simp
  · go_simp
  · go_simp
  · go_simp

set_option maxHeartbeats 400000 in
set_option maxRecDepth 100000 in
theorem near_any (a lv rv qv res : Int) (rt : Bool) (L R Q : Nat) (w : World) (hL : w.cell? ⟨L, 0, none⟩ = some (.slice none 0 0)) (hLf : w.frozen? ⟨L, 0, none⟩ = false) (hR : w.cell? ⟨R, 0, none⟩ = some (.int .i32 rv)) (hQ : w.cell? ⟨Q, 0, none⟩ = some (.int .i32 qv))
    (l1 : L < w.heap.size) (r1 : R < w.heap.size) (q1 : Q < w.heap.size) (hRL : R ≠ L) (hQL : Q ≠ L) (hres : res = if rt then rv else qv) :
    Calls Yba.prog 6 #[.int .i32 a, .int .i64 lv, .bool rt, .pointer (some ⟨L, 0, none⟩), .pointer (some ⟨R, 0, none⟩), .pointer (some ⟨Q, 0, none⟩)] w fun e w' =>
      e = .returned (.int .i32 res) ∧ Logged L a lv rt w w' := by
  have l2 : L < w.heap.size + 1 := by omega
  have l3 : L < w.heap.size + 1 + 1 := by omega
  have r2 : R < w.heap.size + 1 := by omega
  have r3 : R < w.heap.size + 1 + 1 := by omega
  have q2 : Q < w.heap.size + 1 := by omega
  have q3 : Q < w.heap.size + 1 + 1 := by omega
  subst hres
  cases rt
  all_goals
    go_enter Yba.func6, Yba.ntmps6
    go_wp2
    go_ret
    exact ⟨rfl, logged_mk w L _ a lv _ _ _ hL l1⟩

theorem Logged.cell {L : Nat} {a lv : Int} {rt : Bool} {w w' : World} (h : Logged L a lv rt w w') {p : Addr} {v : Value} (hp : p.block < w.heap.size) (hne : p.block ≠ L) (hv : w.cell? p = some v) : w'.cell? p = some v := by
  obtain ⟨g, cap, _, _, _, _, _, _, k⟩ := h
  rw [k.cell hp hne, hv]

theorem Logged.drewN {L : Nat} {a lv : Int} {rt : Bool} {w w' : World} (h : Logged L a lv rt w w') (n : Nat) : Logged L a lv rt w (w'.drewN n) := by
  obtain ⟨g, cap, h1, h2, h3, h4, h5, h6, k⟩ := h
  exact ⟨g, cap, h1, h2, h3, h4, h5, h6, k.drewN n⟩

end Go.Proofs.Ybulkdogo.lawS5760AWhole

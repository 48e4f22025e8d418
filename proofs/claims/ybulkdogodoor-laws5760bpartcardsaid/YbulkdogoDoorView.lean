import Derived.Test.YbulkdogoDoorState
import Derived.Below
import Derived.Deep.CutRange
import Derived.Deep.RegionHeld3
namespace Go.Proofs.YbulkdogoDoor
open Go.RowKit Pl

theorem below_drewN {B : Nat} {a w : World} (h : Below B a w) (n : Nat) : Below B a (w.drewN n) := ⟨h.os, h.tape, h.output, h.size, h.block⟩
theorem lt_of_cell {w : World} {a : Addr} {v : Value} (h : w.cell? a = some v) : a.block < w.heap.size := by
  by_cases hlt : a.block < w.heap.size
  · exact hlt
  · have e : w.heap[a.block]? = none := Array.getElem?_eq_none (by omega)
    simp [World.cell?, e] at h
theorem IL.keep {w0 w : World} {S : Nat} {v : Value} {xs : List Int} (h : IL w0 v xs) (hb : Below S w0 w) (hs : w0.heap.size ≤ S) : IL w v xs := by
  rcases h with h | ⟨g, cap, e, hc⟩
  · exact .inl h
  · refine .inr ⟨g, cap, e, fun i hi => ?_⟩
    have := lt_of_cell (hc i hi)
    rw [hb.cell (by simp only at this ⊢; omega)]
    exact hc i hi
theorem Lays.keep {w0 w : World} {S : Nat} {P R : Nat → Nat → Nat → Bool} {N p j : Nat} {v : Value} (h : Lays w0 P R N p j v) (hb : Below S w0 w) (hs : w0.heap.size ≤ S) : Lays w P R N p j v := by
  rcases h with h | ⟨g, cap, e, hc⟩
  · exact .inl h
  · refine .inr ⟨g, cap, e, fun i hi => ?_⟩
    obtain ⟨h0, nv, rv, h1, h2, h3, h4⟩ := hc i hi
    have := lt_of_cell h0
    have hg : g < S := by simp only at this; omega
    refine ⟨by rw [hb.cell hg]; exact h0, nv, rv, by rw [hb.cell hg]; exact h1, by rw [hb.cell hg]; exact h2, h3.keep hb hs, h4.keep hb hs⟩

/-- The state in block S over the base world w0, whatever its view holds. -/
structure Vw (wF w0 : World) (S U N : Nat) (P R : Nat → Nat → Nat → Bool) (w : World) : Prop where
  bel : Below S w0 w
  sz : w0.heap.size ≤ S
  base : ∀ p, p < N → ∃ v, w0.cell? ⟨U, p, none⟩ = some v ∧ Lays w0 P R N p 4 v
  up : w.cell? ⟨S, 1, none⟩ = some (.slice (some ⟨U, 0, none⟩) N N)
  ex : ∀ k, k < 24 → ∃ v, w.cell? ⟨S, k, none⟩ = some v
  fz : ∀ k, w.frozen? ⟨S, k, none⟩ = false
  far : ∀ k, k ≠ S → w.heap[k]? = wF.heap[k]?
theorem Vw.st {wF w0 : World} {S U N : Nat} {P R : Nat → Nat → Nat → Bool} {w : World} (h : Vw wF w0 S U N P R w) : St S U N P R w := by
  refine ⟨h.up, fun p hp => ?_⟩
  obtain ⟨v, hv, hL⟩ := h.base p hp
  have := lt_of_cell hv
  have hs := h.sz
  refine ⟨v, by rw [h.bel.cell (by simp only at this ⊢; omega)]; exact hv, hL.keep h.bel h.sz⟩
theorem Vw.set {wF w0 : World} {S U N : Nat} {P R : Nat → Nat → Nat → Bool} {w : World} (h : Vw wF w0 S U N P R w) (k : Nat) (hk : 7 ≤ k) (x : Value) : Vw wF w0 S U N P R (w.setCell ⟨S, k, none⟩ x) := by
  refine ⟨h.bel.setCell (Nat.le_refl _) x, h.sz, h.base, ?_, fun j hj => ?_, fun j => ?_, fun j hj => by rw [Below.heap_setCell _ _ _ _ hj]; exact h.far j hj⟩
  · rw [World.cell?_setCell_other (a := ⟨S, k, none⟩) (b := ⟨S, 1, none⟩) _ _ (fun e => by have h' : k = 1 := congrArg Addr.off e; omega)]; exact h.up
  · obtain ⟨v, hv⟩ := h.ex j hj
    exact cell?_setCell_some hv
  · rw [World.frozen?_setCell]; exact h.fz j
theorem Vw.drewN {wF w0 : World} {S U N : Nat} {P R : Nat → Nat → Nat → Bool} {w : World} (h : Vw wF w0 S U N P R w) (n : Nat) : Vw wF w0 S U N P R (w.drewN n) := ⟨below_drewN h.bel n, h.sz, h.base, h.up, h.ex, h.fz, h.far⟩
theorem Vw.drew {wF w0 : World} {S U N : Nat} {P R : Nat → Nat → Nat → Bool} {w : World} (h : Vw wF w0 S U N P R w) : Vw wF w0 S U N P R w.drew := ⟨h.bel.drew, h.sz, h.base, h.up, h.ex, h.fz, h.far⟩

theorem cut_world {G : World → Prop} {W : World} (I : World → Prop) (h : I W) (k : ∀ w1, I w1 → G w1) : G W := k W h

def upd (C : Nat → Option Value) (k : Nat) (x : Value) : Nat → Option Value := fun j => if j = k then some x else C j
/-- The state, and of its cells what C tells. -/
structure VC (V : World → Prop) (S : Nat) (C : Nat → Option Value) (w : World) : Prop where
  vw : V w
  cell : ∀ k v, C k = some v → w.cell? ⟨S, k, none⟩ = some v
theorem VC.drewN {wF w0 : World} {S U N : Nat} {P R : Nat → Nat → Nat → Bool} {C : Nat → Option Value} {w : World} (h : VC (Vw wF w0 S U N P R) S C w) (n : Nat) : VC (Vw wF w0 S U N P R) S C (w.drewN n) := ⟨h.vw.drewN n, h.cell⟩
theorem VC.drew {wF w0 : World} {S U N : Nat} {P R : Nat → Nat → Nat → Bool} {C : Nat → Option Value} {w : World} (h : VC (Vw wF w0 S U N P R) S C w) : VC (Vw wF w0 S U N P R) S C w.drew := ⟨h.vw.drew, h.cell⟩
theorem VC.set {wF w0 : World} {S U N : Nat} {P R : Nat → Nat → Nat → Bool} {C : Nat → Option Value} {w : World} (h : VC (Vw wF w0 S U N P R) S C w) (k : Nat) (hk : 7 ≤ k) (hk2 : k < 24) (x : Value) : VC (Vw wF w0 S U N P R) S (upd C k x) (w.setCell ⟨S, k, none⟩ x) := by
  refine ⟨h.vw.set k hk x, fun j v hj => ?_⟩
  unfold upd at hj
  by_cases e : j = k
  · subst e
    rw [if_pos rfl] at hj
    cases hj
    obtain ⟨y, hy⟩ := h.vw.ex j hk2
    exact World.cell?_setCell_same _ _ _ hy
  · rw [if_neg e] at hj
    rw [World.cell?_setCell_other (a := ⟨S, k, none⟩) (b := ⟨S, j, none⟩) _ _ (fun e' => e (congrArg Addr.off e' : k = j).symm)]
    exact h.cell j v hj
theorem VC.forget {wF w0 : World} {S U N : Nat} {P R : Nat → Nat → Nat → Bool} {C : Nat → Option Value} {w : World} (h : VC (Vw wF w0 S U N P R) S C w) (D : Nat → Option Value) (hD : ∀ k v, D k = some v → C k = some v) : VC (Vw wF w0 S U N P R) S D w := ⟨h.vw, fun k v e => h.cell k v (hD k v e)⟩

theorem VC.put {wF w0 : World} {S U N : Nat} {P R : Nat → Nat → Nat → Bool} {C : Nat → Option Value} {w : World} (h : VC (Vw wF w0 S U N P R) S C w) (k : Nat) (hk : 7 ≤ k) (hk2 : k < 24) (hC : C k = none) (x : Value) : VC (Vw wF w0 S U N P R) S C (w.setCell ⟨S, k, none⟩ x) :=
  (h.set k hk hk2 x).forget C fun j v e => by
    unfold upd
    by_cases e' : j = k
    · subst e'; rw [hC] at e; cases e
    · rw [if_neg e']; exact e

theorem VC.set_eq {wF w0 : World} {S U N : Nat} {P R : Nat → Nat → Nat → Bool} {C : Nat → Option Value} {w : World} (h : VC (Vw wF w0 S U N P R) S C w) (k : Nat) (hk : 7 ≤ k) (hk2 : k < 24) {x y : Bool} (e : x = y) : VC (Vw wF w0 S U N P R) S (upd C k (.bool y)) (w.setCell ⟨S, k, none⟩ (.bool x)) := e ▸ h.set k hk hk2 _
theorem VC.end23 {wF w0 : World} {S U N : Nat} {P R : Nat → Nat → Nat → Bool} {C : Nat → Option Value} {w : World} {x : Value} (h : VC (Vw wF w0 S U N P R) S C w) (e : C 23 = some x) : VC (Vw wF w0 S U N P R) S (fun j => if j = 23 then some x else none) w :=
  h.forget _ fun k v hk => by
    by_cases e' : k = 23
    · subst e'; rw [e]; exact hk
    · rw [if_neg e'] at hk; cases hk

def C13 (V : World → Prop) (S : Nat) (a l : Int) (rest r : Bool) (res : Int) : Prop := ∀ w, V w → Calls Ybad.prog 13 #[.pointer (some ⟨S, 0, none⟩), .int .i32 a, .int .i64 l, .bool rest, .bool r] w fun e w' => e = .returned (.int .i32 res) ∧ ∃ m, w' = w.drewN m
def C14 (V : World → Prop) (S : Nat) (a l : Int) (res : Bool) : Prop := ∀ w, V w → Calls Ybad.prog 14 #[.pointer (some ⟨S, 0, none⟩), .int .i32 a, .int .i64 l] w fun e w' => e = .returned (.bool res) ∧ ∃ m, w' = w.drewN m
def C12 (V : World → Prop) (S : Nat) (a l : Int) (res : Bool) : Prop := ∀ w, V w → Calls Ybad.prog 12 #[.pointer (some ⟨S, 0, none⟩), .int .i32 a, .int .i64 l] w fun e w' => e = .returned (.bool res) ∧ ∃ m, w' = w.drewN m

def validV (a0 au a1 : Bool) (ns0 ns1 fa0 fa1 ne0 ne1 : Int) : Bool :=
  !(a0 && au && a1) || (ns1 == fa1 && (ns0 == fa0 || ns0 == ne0 || ns0 == -1)) || (ns0 == fa0 && (ns1 == ne1 || ns1 == fa1 || ns1 == -1))

def Cg (gr : Bool) : Nat → Option Value := fun j => if j = 2 then some (.bool gr) else none

def tl : Code → Code
  | .seq _ c => c
  | c => c
def hd : Code → Code
  | .seq c _ => c
  | c => c
def bod : Option Code → Code
  | some c => c
  | none => .skip
end Go.Proofs.YbulkdogoDoor

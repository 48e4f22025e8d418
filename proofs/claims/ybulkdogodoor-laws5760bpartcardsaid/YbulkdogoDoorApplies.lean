import Derived.Test.YbulkdogoDoorLook
import Derived.Test.YbulkdogoDoorCalls
namespace Go.Proofs.YbulkdogoDoor
open Go.RowKit Pl

/-- Which matrix holds u's parent list. -/
def par (P R : Nat → Nat → Nat → Bool) (N u k : Nat) : Nat → Nat → Nat → Bool := if (!promV (P k (u : Int).toNat) N u) then R else P
def neV (P R : Nat → Nat → Nat → Bool) (N u k : Nat) (r : Bool) : Int := nbV (par P R N u k k (u : Int).toNat) N u r
def faV (P R : Nat → Nat → Nat → Bool) (N u k : Nat) (r : Bool) : Int := nbV (par P R N u k k (neV P R N u k r).toNat) N (neV P R N u k r) r
def nsV (P : Nat → Nat → Nat → Bool) (N u k : Nat) (r : Bool) : Int := nbV (P (k + 1) (u : Int).toNat) N u r
def atV (P R : Nat → Nat → Nat → Bool) (N u k : Nat) (r : Bool) : Bool := promV (P (k + 1) (neV P R N u k r).toNat) N (neV P R N u k r)
def auV (P : Nat → Nat → Nat → Bool) (N u k : Nat) : Bool := promV (P (k + 1) (u : Int).toNat) N u
def okV (P R : Nat → Nat → Nat → Bool) (N u k : Nat) : Bool :=
  validV (atV P R N u k false) (auV P N u k) (atV P R N u k true) (nsV P N u k false) (nsV P N u k true) (faV P R N u k false) (faV P R N u k true) (neV P R N u k false) (neV P R N u k true)

theorem look_any (wF w0 : World) (S U N : Nat) (P R : Nat → Nat → Nat → Bool) (u k : Nat) (gr : Bool) (w : World) (h : VC (Vw wF w0 S U N P R) S (Cg gr) w) (hN : N ≤ 64) (dP : ∀ l p, P l p p = false) (dR : ∀ l p, R l p p = false) (hu : u < N) (h1 : 1 ≤ k) (h3 : k < 3)
    (hch : w.cell? ⟨S, 6, none⟩ = some (.int .u64 0)) (htk : w.cell? ⟨S, 10, none⟩ = some (.bool false)) :
    Calls Ybad.prog 8 #[.pointer (some ⟨S, 0, none⟩), .int .i32 u, .int .i64 ((k : Int) + 1)] w fun e w' => e = .returned (.pointer (some ⟨S, 7, none⟩)) ∧ VC (Vw wF w0 S U N P R) S (fun j => if j = 23 then some (.bool (okV P R N u k)) else none) w' := by
  have hu' : (u : Int) = -1 ∨ (0 ≤ (u : Int) ∧ (u : Int) < N) := .inr ⟨by omega, by omega⟩
  have hd : ∀ (pa : Bool) p, (if pa then R else P) k p p = false := fun pa p => by cases pa <;> simp [dP, dR]
  have e1 : ((k : Int) + 1) = ((k + 1 : Nat) : Int) := by omega
  have c13 : ∀ (a : Int) (pa r : Bool), (a = -1 ∨ (0 ≤ a ∧ a < N)) → C13 (Vw wF w0 S U N P R) S a k pa r (nbV ((if pa then R else P) k a.toNat) N a r) := fun a pa r ha w hv => nearest_any S U N P R a k pa r w hv.st hN (hd pa) ha h1 (by omega)
  have c13' : ∀ (a : Int) (r : Bool), (a = -1 ∨ (0 ≤ a ∧ a < N)) → C13 (Vw wF w0 S U N P R) S a ((k : Int) + 1) false r (nbV (P (k + 1) a.toNat) N a r) := fun a r ha w hv => by
    rw [e1]
    exact nearest_any S U N P R a (k + 1) false r w hv.st hN (fun p => dP _ p) ha (by omega) (by omega)
  have c14 : ∀ (a : Int), (a = -1 ∨ (0 ≤ a ∧ a < N)) → C14 (Vw wF w0 S U N P R) S a ((k : Int) + 1) (promV (P (k + 1) a.toNat) N a) := fun a ha w hv => by
    rw [e1]
    exact promoted_any S U N P R a (k + 1) w hv.st ha (by omega) (by omega)
  have c12 : C12 (Vw wF w0 S U N P R) S u k (!promV (P k (u : Int).toNat) N u) := fun w hv => remains_any S U N P R u k w hv.st hu' h1 (by omega)
  have rn : ∀ r, neV P R N u k r = -1 ∨ (0 ≤ neV P R N u k r ∧ neV P R N u k r < N) := fun r => nbV_rng hu'
  have rf : ∀ r, faV P R N u k r = -1 ∨ (0 ≤ faV P R N u k r ∧ faV P R N u k r < N) := fun r => nbV_rng (rn r)
  have cn : ∀ r, C13 (Vw wF w0 S U N P R) S u k (!promV (P k (u : Int).toNat) N u) r (neV P R N u k r) := fun r => c13 _ _ r hu'
  have cf : ∀ r, C13 (Vw wF w0 S U N P R) S (neV P R N u k r) k (!promV (P k (u : Int).toNat) N u) r (faV P R N u k r) := fun r => c13 _ _ r (rn r)
  have ct : ∀ r, C13 (Vw wF w0 S U N P R) S (faV P R N u k r) k (!promV (P k (u : Int).toNat) N u) r (nbV (par P R N u k k (faV P R N u k r).toNat) N (faV P R N u k r) r) := fun r => c13 _ _ r (rf r)
  exact look_walk wF w0 S U N P R u k gr _ _ _ _ _ _ _ _ _ _ _ _ _ _ _ _ w h h3 hch htk c12 (cn false) (cn true) (cf false) (cf true) (c13' _ false hu') (c13' _ true hu') (c14 _ (rn false)) (c14 _ (rn true)) (c14 _ hu')
    (c14 _ (rf false)) (c14 _ (rf true)) (ct false) (ct true) (c14 _ (nbV_rng (rf false))) (c14 _ (nbV_rng (rf true)))

set_option maxHeartbeats 400000 in
set_option maxRecDepth 100000 in
theorem applies_any (wF w0 : World) (S U N : Nat) (P R : Nat → Nat → Nat → Bool) (u k : Nat) (gr : Bool) (w : World) (h : VC (Vw wF w0 S U N P R) S (Cg gr) w) (hN : N ≤ 64) (dP : ∀ l p, P l p p = false) (dR : ∀ l p, R l p p = false) (hu : u < N) (h1 : 1 ≤ k) (h3 : k < 3)
    (hch : w.cell? ⟨S, 6, none⟩ = some (.int .u64 0)) (htk : w.cell? ⟨S, 10, none⟩ = some (.bool false)) :
    Calls Ybad.prog 7 #[.pointer (some ⟨S, 0, none⟩), .int .i32 u, .int .i64 ((k : Int) + 1)] w fun e w' => e = .returned (.bool (!okV P R N u k)) ∧ Vw wF w0 S U N P R w' := by
  have HL : Hid (∀ w' : World, w' = w → Calls Ybad.prog 8 #[.pointer (some ⟨S, 0, none⟩), .int .i32 u, .int .i64 ((k : Int) + 1)] w' fun e w' => e = .returned (.pointer (some ⟨S, 7, none⟩)) ∧ VC (Vw wF w0 S U N P R) S (fun j => if j = 23 then some (.bool (okV P R N u k)) else none) w') := fun w' e => by
    subst e; exact look_any wF w0 S U N P R u k gr w' h hN dP dR hu h1 h3 hch htk
  clear h dP dR hch htk
  generalize okV P R N u k = ok at *
  go_enter Ybad.func7, Ybad.ntmps7
  go_wp2_with (go_at_call 8; refine (HL.out _ rfl).mono ?_; rintro e w' ⟨rfl, hv⟩; have HV : Hid (VC (Vw wF w0 S U N P R) S (fun j => if j = 23 then some (.bool ok) else none) w') := hv; have c23 := hv.cell 23 _ rfl; clear hv)
  go_ret
  exact ⟨rfl, HV.out.vw⟩
end Go.Proofs.YbulkdogoDoor

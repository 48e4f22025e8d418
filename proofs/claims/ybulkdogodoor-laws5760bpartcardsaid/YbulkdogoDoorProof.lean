import Derived.Test.YbulkdogoDoorLaw
import Derived.Test.YbulkdogoDoorTie
import Derived.Test.YbulkdogoDoorCards
import Derived.ProofKit
import Derived.OpenShut
import Derived.ShutString
import Derived.LaidMore
import Derived.Stop.Joined
import Derived.Lib.LaidTab
import Derived.Lib.SmallJoins
import Derived.Deep.Slices
import Derived.Deep.Draws
import Derived.ChangeOld
import Derived.Below
namespace Go.Proofs.YbulkdogoDoor
open Go.ChangeShapes Go.WideShapes Go.ChangeAt Go.RowKit
open Go.ChangeMaps (open_string shut_string)

theorem own : ownKnob Ybad.prog.godebug = none := by kernel_rfl
theorem laidOut : laidOutB Ybad.prog = true := by kernel_rfl
theorem cells27 : Ybad.prog.cellsOf 27 = 4 := by kernel_rfl
theorem cells5 : Ybad.prog.cellsOf 5 = 1 := by kernel_rfl
theorem cells4 : Ybad.prog.cellsOf 4 = 1 := by kernel_rfl

theorem door_met (os : Os) (args : Array Value) : laidMetH Ybad.prog Rows.lawS5760BPartRow.laid ((World.doorLaid Ybad.prog 400 os).forCall (fun _ _ => 0) ⟨#[], args, []⟩).memory :=
  laidMetH_of_parts3 (fuel := 8) (laidMet_of_run' 8 (by kernel_rfl) (by kernel_rfl)) (by kernel_rfl) (by kernel_rfl)

/-- What the walk is told of the links that came in. -/
def IsLk (w : World) (a : Option Addr) (len : Nat) : Prop :=
  ∀ i, i < len → ∃ x : Addr, a = some x ∧ x.block < w.heap.size ∧ ∃ A B L : Nat, ∃ r : Bool, A < 256 ∧ B < 256 ∧ L < 256 ∧ w.cell? (x.add (i * 4)) = some (.int .u8 A) ∧ w.cell? ⟨(x.add (i * 4)).block, (x.add (i * 4)).off + 1, none⟩ = some (.int .u8 B) ∧ w.cell? ⟨(x.add (i * 4)).block, (x.add (i * 4)).off + 2, none⟩ = some (.int .u8 L) ∧ w.cell? ⟨(x.add (i * 4)).block, (x.add (i * 4)).off + 3, none⟩ = some (.bool r)

set_option maxHeartbeats 400000 in
set_option maxRecDepth 100000 in
theorem early_big (s : ByteArray) (nv : Int) (a : Option Addr) (len cap : Nat) (uv lv : Int) (gr : Bool) (w : World) (h : 1048576 < len) (hm : len ≤ maxLen) :
    Calls Ybad.prog 3 #[.string s, .int .u8 nv, .slice a len cap, .int .u8 uv, .int .u8 lv, .bool gr] w fun e w' => e = .returned (.bool true) ∧ w' = w := by
  unfold maxLen at hm
  have h' : (1048576 : Int) < len := by omega
  go_enter Ybad.func3, Ybad.ntmps3
  go_wp2
  go_ret
  exact ⟨rfl, rfl⟩

theorem walk (s : ByteArray) (nv : Int) (a : Option Addr) (len cap : Nat) (uv lv : Int) (gr : Bool) (w : World) (hm : len ≤ maxLen) (hl : IsLk w a len) (w1 : (Lit.int .u8 nv).wf = true) (w3 : (Lit.int .u8 uv).wf = true) (w4 : (Lit.int .u8 lv).wf = true) :
    Calls Ybad.prog 3 #[.string s, .int .u8 nv, .slice a len cap, .int .u8 uv, .int .u8 lv, .bool gr] w fun e w' => e = .returned (.bool true) ∧ Below w.heap.size w w' := by
  by_cases hbig : 1048576 < len
  · exact (early_big s nv a len cap uv lv gr w hbig hm).mono fun e w' ⟨h1, h2⟩ => ⟨h1, by rw [h2]; exact Below.refl _ _⟩
  · have b1 := bounds_u8 w1
    have b3 := bounds_u8 w3
    have b4 := bounds_u8 w4
    obtain ⟨n1, rfl⟩ := Int.eq_ofNat_of_zero_le b1.1
    obtain ⟨n3, rfl⟩ := Int.eq_ofNat_of_zero_le b3.1
    obtain ⟨n4, rfl⟩ := Int.eq_ofNat_of_zero_le b4.1
    exact law_any s n1 a len cap n3 n4 gr w (by omega) (by omega) (by omega) (by omega) hl

theorem take1 {l : List Value} {k : Nat} {v : Value} (h : (l.drop k).take 1 = [v]) : l[k]? = some v := by
  have := congrArg (·[0]?) h
  simpa [List.getElem?_take, List.getElem?_drop] using this

set_option maxRecDepth 100000 in
theorem lifted (os : Os) (started : os.Started) (H : Type) (enc : TypeId × Value → H) :
    ReturnsInHanded {} Ybad.checked os 3 .any (fun w args => (Rows.lawS5760BPartSpec.pre enc Ybad.prog Ybad.f3 [] false w args ∧ laidMetH Ybad.prog Rows.lawS5760BPartRow.laid w) ∧ sizedMet enc Ybad.prog Ybad.f3 (OpenSpec.ofChange Rows.lawS5760BPartSpec) false w args)
      (Rows.lawS5760BPartSpec.post enc Ybad.prog Ybad.f3 false true false false) := by
  refine returnsInHanded_of_change_and (C := Ybad.checked) (X := fun w _ => laidMetH Ybad.prog Rows.lawS5760BPartRow.laid w) (fun _ _ _ hh h => h.of_heap hh) own started (by kernel_rfl) Ybad.func3
    (ChangeSpec.witness_shaped (enc := enc) (C := Ybad.checked) (os := os) (X := fun w _ => laidMetH Ybad.prog Rows.lawS5760BPartRow.laid w) false (World.doorLaid Ybad.prog 400 os) #[.string ByteArray.empty, .int .u8 0, .slice none 0 0, .int .u8 0, .int .u8 0, .bool false] 8 rfl (World.shaped_of_RefB (by kernel_rfl) (by kernel_rfl)) (by kernel_rfl) (by kernel_rfl) (by kernel_rfl) (door_met os _)) ?_
  intro W base args ds gs before hval0 hW _ _ _ _
  have hval : ∀ (j : Nat) t v, Ybad.f3.params[j]? = some t → args[j]? = some v → Value.okWide Ybad.prog W .any base t v := hval0
  have hW' := hW
  obtain ⟨p, q, hA0, hV, rfl, hfz, hnd⟩ := hW
  have hA : DataW.TrodAll enc Ybad.prog W 0 (fun _ => true) true Ybad.f3.params.toList args.toList ds p := hA0
  rw [Ybad.params3] at hA hval
  obtain ⟨v0, vs0, d0, ds0, p0, q0, hargs, rfl, rfl, h0, r0⟩ := trodAll_cons hA
  obtain ⟨v1, vs1, d1, ds1, p1, q1, rfl, rfl, rfl, h1, r1⟩ := trodAll_cons r0
  obtain ⟨v2, vs2, d2, ds2, p2, q2, rfl, rfl, rfl, h2, r2⟩ := trodAll_cons r1
  obtain ⟨v3, vs3, d3, ds3, p3, q3, rfl, rfl, rfl, h3, r3⟩ := trodAll_cons r2
  obtain ⟨v4, vs4, d4, ds4, p4, q4, rfl, rfl, rfl, h4, r4⟩ := trodAll_cons r3
  obtain ⟨v5, vs5, d5, ds5, p5, q5, rfl, rfl, rfl, h5, r5⟩ := trodAll_cons r4
  obtain ⟨rfl, rfl, rfl⟩ := trodAll_nil r5
  obtain rfl : args = #[v0, v1, v2, v3, v4, v5] := by cases args; simp_all
  obtain ⟨rfl, rfl⟩ := trodVars_none hV
  obtain ⟨s, rfl, rfl, rfl, w0⟩ := open_string Ybad.underlying9 (hval 0 9 v0 rfl rfl) h0
  obtain ⟨a1, rfl, rfl, rfl, w1⟩ := open_int Ybad.underlying5 (hval 1 5 v1 rfl rfl) h1
  obtain ⟨a2, len, cap, rfl⟩ := okWide_slice Ybad.underlying22 (hval 2 22 v2 rfl rfl)
  have k2 := h2
  have lt2 : ∀ x ∈ p2, x.block < W.heap.size := by obtain ⟨m, hm⟩ := k2; exact DataW.trod_lt m _ _ _ hm
  obtain ⟨hml, hlk⟩ : len ≤ maxLen ∧ IsLk W a2 len := by
    obtain ⟨fuel, hf⟩ := h2
    rcases Go.Deep.open_slice Ybad.underlying22 hf with ⟨hcs, _⟩ | ⟨x, l, c, m, n, D, Pl, hcs, _, hl, hm, hmm, _, hall⟩
    · simp [Value.cells] at hcs
      obtain ⟨rfl, rfl, rfl⟩ := hcs
      exact ⟨Nat.zero_le _, fun i hi => absurd hi (Nat.not_lt_zero _)⟩
    · simp [Value.cells] at hcs
      obtain ⟨rfl, rfl, rfl⟩ := hcs
      refine ⟨by omega, fun i hi => ?_⟩
      obtain ⟨cs, hc, ht⟩ := hall i (by rw [hmm]; split <;> omega)
      rw [cells27] at hc
      obtain ⟨_, hlen, hcell⟩ := World.cells?_some hc
      obtain ⟨y0, y1, y2, y3, n', _, _, t0, t1, t2, t3⟩ := Go.Joins.trod_struct4 Ybad.underlying27 ht
      obtain ⟨z0, e0, _, b0⟩ := DataW.trod_int Ybad.underlying5 t0
      obtain ⟨z1, e1, _, b1⟩ := DataW.trod_int Ybad.underlying5 t1
      obtain ⟨z2, e2, _, b2⟩ := DataW.trod_int Ybad.underlying5 t2
      obtain ⟨r, e3, _⟩ := DataW.trod_bool Ybad.underlying4 t3
      rw [cells5] at e0 e1 e2
      rw [cells4] at e3
      have b0' := bounds_u8 b0
      have b1' := bounds_u8 b1
      have b2' := bounds_u8 b2
      obtain ⟨n0, rfl⟩ := Int.eq_ofNat_of_zero_le b0'.1
      obtain ⟨n1, rfl⟩ := Int.eq_ofNat_of_zero_le b1'.1
      obtain ⟨n2, rfl⟩ := Int.eq_ofNat_of_zero_le b2'.1
      have g0 := (hcell 0 (by omega)).trans (take1 e0)
      have g1 := (hcell 1 (by omega)).trans (take1 e1)
      have g2 := (hcell 2 (by omega)).trans (take1 e2)
      have g3 := (hcell 3 (by omega)).trans (take1 e3)
      refine ⟨x, rfl, ?_, n0, n1, n2, r, by omega, by omega, by omega, g0, g1, g2, g3⟩
      have hb := World.block_lt_of_cell? W _ g0
      have hxb : ∀ (y : Addr) k, (y.add k).block = y.block := fun y k => by unfold Addr.add; split <;> rfl
      rw [hxb, hxb] at hb
      exact hb
  obtain ⟨a3, rfl, rfl, rfl, w3⟩ := open_int Ybad.underlying5 (hval 3 5 v3 rfl rfl) h3
  obtain ⟨a4, rfl, rfl, rfl, w4⟩ := open_int Ybad.underlying5 (hval 4 5 v4 rfl rfl) h4
  obtain ⟨a5, rfl, rfl, rfl⟩ := open_bool Ybad.underlying4 (hval 5 4 v5 rfl rfl) h5
  clear hA0 hval0
  refine (walk s a1 a2 len cap a3 a4 a5 W hml hlk w1 w3 w4).mono fun e W' ⟨he, bel⟩ => ?_
  subst he
  exact ⟨_, rfl, _, _, _, [], _, [], hW', trodAll_mk1 (shut_bool Ybad.underlying4 _), (trodAll_cons_mk (shut_string Ybad.underlying9 w0) (trodAll_cons_mk (shut_int Ybad.underlying5 w1) (trodAll_cons_mk (Below.trod laidOut (by kernel_rfl) (of_decide_eq_true (by kernel_rfl)) k2 bel lt2) (trodAll_cons_mk (shut_int Ybad.underlying5 w3) (trodAll_cons_mk (shut_int Ybad.underlying5 w4) (trodAll_cons_mk (shut_bool Ybad.underlying4 _) trodAll_mk0)))))), rfl, bel.frame _, fun h => by cases h⟩

theorem over : Rows.LawS5760BPartSaid :=
  OpenClaim.holds_of_wide 3 Ybad.f3 rfl rfl rfl rfl rfl rfl rfl ⟨rfl, rfl, rfl, rfl, rfl⟩ rfl rfl rfl rfl rfl (by kernel_rfl) Ybad.func3 (by kernel_rfl)
    (of_decide_eq_true (by kernel_rfl)) (by unfold Func.isWrapper; first | (rw [if_pos (by decide +kernel)]; kernel_rfl) | (rw [if_neg (by decide +kernel)]; exact ⟨rfl, rfl⟩))
    (fun os started H enc _ => lifted os started H enc)

/-- THE STATEMENT: THE TIED CARD -/
theorem proved : Rows.LawS5760BPartCardSaid :=
  Claim7.holds_tied_plain_at .later [] [.data] true Rows.lawS5760BPartCard.stood.harness false
    over (fun _ h => by cases h) (by kernel_rfl) (fun _ h => by cases h) lawS5760BPart_row_tie rfl ⟨rfl, rfl⟩ (by kernel_rfl) rfl
    (fun f fn hf hfn => by
      obtain rfl : f = 3 := Option.some.inj ((show Ybad.prog.funcNamed Rows.lawS5760BPartRow.func = some 3 by kernel_rfl).symm.trans hf) |>.symm
      obtain rfl : fn = Ybad.f3 := (Option.some.inj (Ybad.func3.symm.trans hfn)).symm
      exact ⟨by kernel_rfl, fun j t ht => by
        rw [Ybad.params3] at ht
        have hm : t ∈ [9, 5, 22, 5, 5, 4] := by simpa using Array.mem_of_getElem? ht
        have hall : ([9, 5, 22, 5, 5, 4].all fun u => !Ybad.prog.wantsStandIn u) = true := by kernel_rfl
        exact (show Ybad.prog.wantsStandIn t = false by simpa using List.all_eq_true.1 hall t hm)⟩)
    (by kernel_rfl)
#print axioms proved
end Go.Proofs.YbulkdogoDoor

import Derived.Test.YbulkdodwRows
import Derived.WalkKit
import Derived.WalkLawsBesides
import Derived.ProofKit
import Derived.OpenShut
import Derived.LaidEqlPtr
import Derived.ShutString
namespace Go.Proofs.Ybulkdodw.lawS5755BPart
open Go.ChangeShapes Go.WideShapes Go.ChangeAt Go.RowKit
open Go.ChangeMaps (open_string shut_string)
set_option linter.unusedVariables false

theorem own : ownKnob Yba.prog.godebug = none := by kernel_rfl

/-! ### closed runs: a function value against nil -/
theorem run_neq_nil_nil (w : World) : Sem.run Yba.prog (binOp .neq 32 .nilFunc .nilFunc) w = .ok (.bool false) w := by kernel_rfl
theorem run_neq_func_nil (f : Fn) (x y : Array Value) (w : World) : Sem.run Yba.prog (binOp .neq 32 (.func f x y) .nilFunc) w = .ok (.bool true) w := by kernel_rfl
/-- The first cell of the array that append has made. -/
theorem head_cell (p : Value) (z : Array Value) : (#[p] ++ z)[0]? = some p := by
  rw [Array.getElem?_append_left (by simp)]; rfl

theorem info28 : Yba.prog.info? 28 = some Yba.t28 := by kernel_rfl
theorem run_eql_same (a : Addr) (w : World) : Sem.run Yba.prog (binOp .eql 22 (.pointer (some a)) (.pointer (some a))) w = .ok (.bool true) w :=
  run_eql_ptr_same w a Yba.underlying22 info28

/-! ### THE WALKS: one a branch of the law's switch and of 'same'; toldOfGroup and the closures are walked in place -/
set_option maxHeartbeats 1000000 in
set_option maxRecDepth 100000 in
theorem walk01 (a0 : Int) (a1 : Bool) (a2 : Bool) (h0 : 0 ≤ a0) (h1 : a0 ≤ 255) (hm : a0 % 3 = 0 ∨ a0 % 3 = 1) (w : World) :
    Calls Yba.prog 3 #[.int .u8 a0, .bool a1, .bool a2] w fun e w' => e = .returned (.bool true) ∧ Below w.heap.size w w' := by
  have hmf : ∀ (fn : Fn) (first cap : Array Value) (w : World), (Instr.makeFunc fn first cap).run Yba.prog w = .ok (.func fn first cap) w := fun _ _ _ _ => rfl
  have hn1 := run_neq_nil_nil
  have hn2 := run_neq_func_nil
  have hc := head_cell
  have hp := run_eql_same
  rcases hm with hm | hm
  · have e0 : (a0 % 3 == 0) = true := by simp [hm]
    have e1 : (a0 % 3 == 1) = false := by simp [hm]
    clear hm
    cases a2 <;>
    · go_enter Yba.func3, Yba.ntmps3
      go_wp2
      refine bodyPost_ret (v := .agg #[.int .i64 0, .int .i64 0, .int .i64 0, .bool a1, .bool false, .bool false, .int .i64 0]) (by simp [results, Yba.results4, go_sem]) rfl ?_
      go_wp2
      refine bodyPost_ret (v := .agg #[.int .i64 0, .int .i64 0, .int .i64 0, .bool a1, .bool false, .bool false, .int .i64 0]) (by simp [results, Yba.results6, go_sem]) rfl ?_
      go_wp2
      go_ret
      exact ⟨rfl, by repeat (first | exact Below.refl _ _ | apply Below.drew | refine Below.alloc ?_ (by simp; try omega) _)⟩
  · have e0 : (a0 % 3 == 0) = false := by simp [hm]
    have e1 : (a0 % 3 == 1) = true := by simp [hm]
    clear hm
    cases a2 <;>
    · go_enter Yba.func3, Yba.ntmps3
      go_wp2
      refine bodyPost_ret (v := .agg #[.int .i64 0, .int .i64 0, .int .i64 0, .bool a1, .bool false, .bool false, .int .i64 0]) (by simp [results, Yba.results4, go_sem]) rfl ?_
      go_wp2
      refine bodyPost_ret (v := .agg #[.int .i64 0, .int .i64 0, .int .i64 0, .bool a1, .bool false, .bool false, .int .i64 0]) (by simp [results, Yba.results6, go_sem]) rfl ?_
      go_wp2
      go_ret
      exact ⟨rfl, by repeat (first | exact Below.refl _ _ | apply Below.drew | refine Below.alloc ?_ (by simp; try omega) _)⟩

set_option maxHeartbeats 1000000 in
set_option maxRecDepth 100000 in
theorem walk2 (a0 : Int) (a1 : Bool) (a2 : Bool) (h0 : 0 ≤ a0) (h1 : a0 ≤ 255) (hm : a0 % 3 = 2) (w : World) :
    Calls Yba.prog 3 #[.int .u8 a0, .bool a1, .bool a2] w fun e w' => e = .returned (.bool true) ∧ Below w.heap.size w w' := by
  have hmf : ∀ (fn : Fn) (first cap : Array Value) (w : World), (Instr.makeFunc fn first cap).run Yba.prog w = .ok (.func fn first cap) w := fun _ _ _ _ => rfl
  have hn1 := run_neq_nil_nil
  have hn2 := run_neq_func_nil
  have hc := head_cell
  have hp := run_eql_same
  have e0 : (a0 % 3 == 0) = false := by simp [hm]
  have e1 : (a0 % 3 == 1) = false := by simp [hm]
  clear hm
  cases a2 <;>
  · go_enter Yba.func3, Yba.ntmps3
    go_wp2
    refine bodyPost_ret (v := .agg #[.int .i64 0, .int .i64 0, .int .i64 0, .bool false, .bool false, .bool false, .int .i64 0]) (by simp [results, Yba.results5, go_sem]) rfl ?_
    go_wp2
    refine bodyPost_ret (v := .agg #[.int .i64 0, .int .i64 0, .int .i64 0, .bool false, .bool false, .bool false, .int .i64 0]) (by simp [results, Yba.results6, go_sem]) rfl ?_
    go_wp2
    go_ret
    exact ⟨rfl, by repeat (first | exact Below.refl _ _ | apply Below.drew | refine Below.alloc ?_ (by simp; try omega) _)⟩

theorem walk (a0 : Int) (a1 : Bool) (a2 : Bool) (w0 : (Lit.int .u8 a0).wf = true) (w : World) :
    Calls Yba.prog 3 #[.int .u8 a0, .bool a1, .bool a2] w fun e w' => e = .returned (.bool true) ∧ Below w.heap.size w w' := by
  have hb := bounds_u8 w0
  rcases (show a0 % 3 = 0 ∨ a0 % 3 = 1 ∨ a0 % 3 = 2 by omega) with h | h | h
  · exact walk01 a0 a1 a2 hb.1 hb.2 (.inl h) w
  · exact walk01 a0 a1 a2 hb.1 hb.2 (.inr h) w
  · exact walk2 a0 a1 a2 hb.1 hb.2 h w

set_option maxRecDepth 100000 in
theorem lifted (os : Os) (started : os.Started) (H : Type) (enc : TypeId × Value → H) :
    ReturnsInHanded {} Yba.checked os 3 .any (Rows.lawS5755BPartSpec.pre6 enc Yba.prog Yba.f3 Rows.lawS5755BPartRow.domain false) (Rows.lawS5755BPartSpec.post enc Yba.prog Yba.f3 false true false false) := by
  refine returnsInHanded_of_change (C := Yba.checked) own started (by kernel_rfl) Yba.func3
    (ChangeSpec.witness6 (enc := enc) (C := Yba.checked) false ⟨#[], #[.int .u8 0, .bool false, .bool false], []⟩ 8 (by kernel_rfl) (by kernel_rfl) (by kernel_rfl) (by kernel_rfl)) ?_
  intro W base args ds gs before hval0 hW hcnd _
  have hval : ∀ (j : Nat) t v, Yba.f3.params[j]? = some t → args[j]? = some v → Value.okWide Yba.prog W .any base t v := hval0
  have hW' := hW
  obtain ⟨p, q, hA0, hV, rfl, hfz, hnd⟩ := hW
  have hA : DataW.TrodAll enc Yba.prog W 0 (fun _ => true) true Yba.f3.params.toList args.toList ds p := hA0
  rw [Yba.params3] at hA hval
  obtain ⟨v0, vs0, d0, ds0, p0, q0, hargs, rfl, rfl, h0, r0⟩ := trodAll_cons hA
  obtain ⟨v1, vs1, d1, ds1, p1, q1, rfl, rfl, rfl, h1, r1⟩ := trodAll_cons r0
  obtain ⟨v2, vs2, d2, ds2, p2, q2, rfl, rfl, rfl, h2, r2⟩ := trodAll_cons r1
  obtain ⟨rfl, rfl, rfl⟩ := trodAll_nil r2
  obtain rfl : args = #[v0, v1, v2] := by cases args; simp_all
  obtain ⟨rfl, rfl⟩ := trodVars_none hV
  obtain ⟨a0, rfl, rfl, rfl, w0⟩ := open_int Yba.underlying5 (hval 0 5 v0 rfl rfl) h0
  obtain ⟨a1, rfl, rfl, rfl⟩ := open_bool Yba.underlying4 (hval 1 4 v1 rfl rfl) h1
  obtain ⟨a2, rfl, rfl, rfl⟩ := open_bool Yba.underlying4 (hval 2 4 v2 rfl rfl) h2
  clear hA0 hval0
  refine (walk a0 a1 a2 w0 W).mono fun e W' ⟨he, bel⟩ => ?_
  subst he
  exact ⟨_, rfl, _, _, _, [], _, [], hW', trodAll_mk1 (shut_bool Yba.underlying4 _), (trodAll_cons_mk (shut_int Yba.underlying5 w0) (trodAll_cons_mk (shut_bool Yba.underlying4 _) (trodAll_cons_mk (shut_bool Yba.underlying4 _) trodAll_mk0))), rfl, bel.frame _, fun h => by cases h⟩

theorem over : Rows.lawS5755BPartRow.holds Yba.pinned (OpenSpec.ofChange Rows.lawS5755BPartSpec) :=
  OpenClaim.holds_of_wide 3 Yba.f3 rfl rfl rfl rfl rfl rfl rfl ⟨rfl, rfl, rfl, rfl, rfl⟩ rfl rfl rfl rfl rfl (by kernel_rfl) Yba.func3 (by kernel_rfl)
    (of_decide_eq_true (by kernel_rfl)) (by unfold Func.isWrapper; first | (rw [if_pos (by decide +kernel)]; kernel_rfl) | (rw [if_neg (by decide +kernel)]; exact ⟨rfl, rfl⟩))
    (fun os started H enc _ => lifted os started H enc)

/-- THE STATEMENT -/
theorem proved : Rows.LawS5755BPartSaid :=
  over
#print axioms proved
end Go.Proofs.Ybulkdodw.lawS5755BPart

import Derived.Test.YbulkdogaDoorJoin
import Derived.Test.YbulkdogaDoorTie
import Derived.Test.YbulkdogaDoorCards
import Derived.ProofKit
import Derived.OpenShut
import Derived.LaidMore
import Derived.Stop.Joined
import Derived.Lib.LaidTab
import Derived.Deep.Draws
import Derived.ChangeAlike
namespace Go.Proofs.YbulkdogaDoor
open Go.ChangeShapes Go.WideShapes Go.ChangeAt Go.RowKit Fl

theorem own : ownKnob Ybad.prog.godebug = none := by kernel_rfl

/-- The listed variable's name, as the row has it. -/
def nm : String := Rows.lawS5759BWholeSpec.vars.headD ""
theorem gPow : Ybad.prog.globalNamed nm = some 0 := by kernel_rfl
theorem tPow : (Ybad.prog.globals[0]?).map (·.type) = some 30 := by kernel_rfl
theorem cells30 : Ybad.prog.cellsOf 30 = 23 := by kernel_rfl
theorem cells22 : Ybad.prog.cellsOf 22 = 1 := by kernel_rfl

def tabL : List Nat := (List.range 23).map tab
def cells23 : Array Value := (tabL.map fun z => Value.float .f64 z).toArray
def tabD {H : Type} : DataW H := .agg (tabL.map fun z => .lit (.float .f64 z))
theorem tabD_eq {H : Type} : (Rows.laid_example_com_chronolith_chronolith_internal_chunk_pow10 : DataW H) = tabD := by kernel_rfl

theorem float_of_trod {H : Type} {enc : TypeId × Value → H} {P : Program} {w : World} {base : Nat} {sp : Nat → Bool} {held : Bool} {fuel : Nat} {e : TypeId} {k : FloatKind} {cs : List Value} {x : DataW H × List MemPlace}
    (he : P.underlying e = some (.float k)) (h : DataW.trod enc P w base sp held fuel e cs = some x) : ∃ z, cs = [.float k z] ∧ x = (.lit (.float k z), []) ∧ (Lit.float k z).wf = true := by
  cases fuel with
  | zero => simp [DataW.trod] at h
  | succ m =>
    unfold DataW.trod at h
    rw [he] at h
    split at h <;> simp_all

/-- An array of floats that reads as the table holds the table's words. -/
theorem cells_of_ftab {H : Type} {enc : TypeId × Value → H} {P : Program} {w : World} {base : Nat} {sp : Nat → Bool} {held : Bool} {fuel : Nat} {t e : TypeId} {n : Nat} {k : FloatKind} {cs : List Value} {zs : List Nat} {p : List MemPlace}
    (ht : P.underlying t = some (.array n e)) (he : P.underlying e = some (.float k)) (hce : P.cellsOf e = 1) (hct : P.cellsOf t = n)
    (h : DataW.trod enc P w base sp held fuel t cs = some (.agg (zs.map fun z => .lit (.float k z)), p)) : cs = zs.map fun z => Value.float k z := by
  cases fuel with
  | zero => simp [DataW.trod] at h
  | succ fuel =>
    simp only [DataW.trod, ht, hce, hct, Nat.mul_one] at h
    split at h
    · rename_i hl
      obtain ⟨xs, hm, hx⟩ := Option.map_eq_some_iff.1 h
      have hxs : xs.map (·.1) = zs.map fun z => (DataW.lit (.float k z) : DataW H) := by
        have := congrArg Prod.fst hx
        simpa using this
      have hxl : xs.length = n := by simpa using Lib.mapM_length hm
      have hzl : zs.length = n := by
        have := congrArg List.length hxs
        simp at this
        omega
      apply List.ext_getElem?
      intro i
      by_cases hi : i < n
      · obtain ⟨b, hb, hf⟩ := Lib.mapM_at hm i i (by simp [hi])
        obtain ⟨z, hc, rfl, _⟩ := float_of_trod he hf
        have h1 : cs[i]? = some (.float k z) := by
          have := congrArg (·[0]?) hc
          simpa [List.getElem?_take, List.getElem?_drop] using this
        have h2 : (xs.map (·.1))[i]? = some (DataW.lit (.float k z) : DataW H) := by simp [hb]
        rw [hxs] at h2
        simp only [List.getElem?_map, Option.map_eq_some_iff, DataW.lit.injEq, Lit.float.injEq, true_and] at h2
        obtain ⟨z', hz', rfl⟩ := h2
        simp [h1, hz']
      · rw [List.getElem?_eq_none (by omega), List.getElem?_eq_none (by simp; omega)]
    · cases h

/-- The row's list, its datum in the short spelling. -/
def laid1 : List (String × DataW Unit) := [(nm, tabD)]
theorem laid_eq : Rows.lawS5759BWholeRow.laid = laid1 := by kernel_rfl

theorem door_met (os : Os) (args : Array Value) : laidMetH Ybad.prog Rows.lawS5759BWholeRow.laid ((World.doorLaid Ybad.prog 400 os).forCall (fun _ _ => 0) ⟨#[], args, []⟩).memory :=
  laidMetH_of_parts3 (fuel := 8) (laidMet_of_run' 8 (by kernel_rfl) (by kernel_rfl)) (by kernel_rfl) (by kernel_rfl)

theorem of_laid {W : World} (h : laidMetH Ybad.prog Rows.lawS5759BWholeRow.laid W) : W.var? Ybad.prog nm = some cells23 := by
  rw [MakeChecks.laidMetH_plain _ _ _ (by kernel_rfl), laid_eq] at h
  obtain ⟨ps, ⟨g, t, cs, fuel, p, q, hg, ht, hvar, hd, _, _⟩, _⟩ := h
  obtain rfl := Option.some.inj (gPow.symm.trans hg)
  obtain rfl := Option.some.inj (tPow.symm.trans ht)
  rw [hvar]
  have := cells_of_ftab Ybad.underlying30 Ybad.underlying22 cells22 cells30 hd
  unfold cells23
  rw [← this]

theorem cell_of {W : World} (h : W.var? Ybad.prog nm = some cells23) (i : Nat) (hi : i < 23) : W.cell? ⟨0, i, none⟩ = some (.float .f64 (tab i)) := by
  have := World.var?_cell gPow h i
  rw [this]
  have e : ∀ i < 23, cells23[i]? = some (Value.float .f64 (tab i)) := by
    intro i hi
    unfold cells23 tabL
    simp [hi]
  exact e i hi

theorem reads_tab {H : Type} (enc : TypeId × Value → H) (W : World) (sp : Nat → Bool) : DataW.trod enc Ybad.prog W 0 sp true 3 30 cells23.toList = some (tabD, []) := by kernel_rfl

set_option maxRecDepth 100000 in
theorem lifted (os : Os) (started : os.Started) (H : Type) (enc : TypeId × Value → H) :
    ReturnsInHanded {} Ybad.checked os 3 .any (fun w args => (Rows.lawS5759BWholeSpec.pre enc Ybad.prog Ybad.f3 [] false w args ∧ laidMetH Ybad.prog Rows.lawS5759BWholeRow.laid w) ∧ sizedMet enc Ybad.prog Ybad.f3 (OpenSpec.ofChange Rows.lawS5759BWholeSpec) false w args)
      (Rows.lawS5759BWholeSpec.post enc Ybad.prog Ybad.f3 false true false false) := by
  refine returnsInHanded_of_change_and (C := Ybad.checked) (X := fun w _ => laidMetH Ybad.prog Rows.lawS5759BWholeRow.laid w) (fun _ _ _ hh h => h.of_heap hh) own started (by kernel_rfl) Ybad.func3
    (ChangeSpec.witness_shaped (enc := enc) (C := Ybad.checked) (os := os) (X := fun w _ => laidMetH Ybad.prog Rows.lawS5759BWholeRow.laid w) false (World.doorLaid Ybad.prog 400 os) #[.float .f64 0, .int .i64 0] 8 rfl (World.shaped_of_RefB (by kernel_rfl) (by kernel_rfl)) (by kernel_rfl) (by kernel_rfl) (by kernel_rfl) (door_met os _)) ?_
  intro W base args ds gs before hval0 hW _ _ hL _
  have hval : ∀ (j : Nat) t v, Ybad.f3.params[j]? = some t → args[j]? = some v → Value.okWide Ybad.prog W .any base t v := hval0
  have hW' := hW
  obtain ⟨p, q, hA0, hV0, rfl, hfz, hnd⟩ := hW
  have hA : DataW.TrodAll enc Ybad.prog W 0 (fun _ => true) true Ybad.f3.params.toList args.toList ds p := hA0
  have hV : DataW.TrodVars enc Ybad.prog W (fun _ => true) [nm] gs q := hV0
  rw [Ybad.params3] at hA hval
  obtain ⟨v0, v1, d0, d1, p0, p1, rfl, rfl, rfl, h0, h1⟩ := trodAll_two hA
  obtain ⟨v, rfl, rfl, rfl, wv⟩ := open_float Ybad.underlying22 (hval 0 22 v0 rfl rfl) h0
  obtain ⟨a, rfl, rfl, rfl, wa⟩ := open_int Ybad.underlying3 (hval 1 3 v1 rfl rfl) h1
  obtain ⟨g, t, cs, fuel, d, p', rfl, hg, ht, hvar, hd, rfl⟩ := trodVars_one hV
  obtain rfl := Option.some.inj (gPow.symm.trans hg)
  obtain rfl := Option.some.inj (tPow.symm.trans ht)
  have hcs := of_laid hL
  obtain rfl : cs = cells23 := Option.some.inj (hvar.symm.trans hcs)
  obtain ⟨rfl, rfl⟩ := DataW.Trod.unique (v := .agg cells23) ⟨fuel, hd⟩ ⟨3, reads_tab enc W _⟩
  clear hA0 hV0 hval0
  have hvars : ∀ sp : Nat → Bool, DataW.TrodVars enc Ybad.prog W sp [nm] [tabD] (MemPlace.row ⟨0, 0, none⟩ cells23.size ++ []) := fun sp => trodVars_mk1 hg ht hvar (reads_tab enc W sp)
  obtain ⟨sc, hsc, hsa⟩ : ∃ sc : Nat, sc < 23 ∧ a % 18446744073709551616 % 23 = sc := ⟨(a % 18446744073709551616 % 23).toNat, by omega, by omega⟩
  refine (law_any v sc a W hsc hsa (cell_of hcs sc hsc)).mono fun e W' ⟨he, n, hw⟩ => ?_
  subst he; subst hw
  exact ⟨_, rfl, ChangeSpec.post_alike (post_of_same (pa := []) hW' (fun _ _ _ => trodAll_mk1 (shut_bool Ybad.underlying4 true)) (fun sp _ => trodAll_mk2 (shut_float Ybad.underlying22 wv) (shut_int Ybad.underlying3 wa)) (fun sp _ => hvars sp) (by simp)
    (World.keptBut_refl _ _) (fun _ => rfl) (ok_one (by kernel_rfl) rfl (okWide_bool_mk Ybad.underlying4 true))) (World.drewN_alike _ _)⟩

theorem over : Rows.LawS5759BWholeSaid :=
  OpenClaim.holds_of_wide 3 Ybad.f3 rfl rfl rfl rfl rfl rfl rfl ⟨rfl, rfl, rfl, rfl, rfl⟩ rfl rfl rfl rfl rfl (by kernel_rfl) Ybad.func3 (by kernel_rfl)
    (of_decide_eq_true (by kernel_rfl)) (by unfold Func.isWrapper; first | (rw [if_pos (by decide +kernel)]; kernel_rfl) | (rw [if_neg (by decide +kernel)]; exact ⟨rfl, rfl⟩))
    (fun os started H enc _ => lifted os started H enc)

/-- THE STATEMENT: THE TIED CARD -/
theorem proved : Rows.LawS5759BWholeCardSaid :=
  Claim7.holds_tied_plain_at .later [] [.data] true Rows.lawS5759BWholeCard.stood.harness false
    over (fun _ h => by cases h) (by kernel_rfl) (fun _ h => by cases h) lawS5759BWhole_row_tie rfl ⟨rfl, rfl⟩ (by kernel_rfl) rfl
    (fun f fn hf hfn => by
      obtain rfl : f = 3 := Option.some.inj ((show Ybad.prog.funcNamed Rows.lawS5759BWholeRow.func = some 3 by kernel_rfl).symm.trans hf) |>.symm
      obtain rfl : fn = Ybad.f3 := (Option.some.inj (Ybad.func3.symm.trans hfn)).symm
      exact ⟨by kernel_rfl, fun j t ht => by
        rw [Ybad.params3] at ht
        have hm : t ∈ [22, 3] := by simpa using Array.mem_of_getElem? ht
        have hall : ([22, 3].all fun u => !Ybad.prog.wantsStandIn u) = true := by kernel_rfl
        exact (show Ybad.prog.wantsStandIn t = false by simpa using List.all_eq_true.1 hall t hm)⟩)
    (by kernel_rfl)
#print axioms proved
end Go.Proofs.YbulkdogaDoor

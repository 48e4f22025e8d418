import Derived.Test.YbulkdoeyFmtCards
import Derived.WalkKit
import Derived.WalkLawsBesides
import Derived.Stop.CallBack
import Derived.Stop.IfaceNil
import Derived.LaidEqlPtr
import GoSem.ClaimData
namespace Go.Proofs.YbulkdoeyFmt.law
open Go.RowKit Go.Extern.Stop Go.Stop Go.Extern

/-! ### closed facts: fmt's stopped front at this program's one format -/
theorem call8 (args : Array Value) (w : World) : (callFunc 8 args).run Ybaf.prog w = ((FmtStop.errorf #[9, 32] #[23] args).run Ybaf.prog w).andThen fun v w' => .ok (.value v) w' :=
  run_callFunc_extern Ybaf.func8 (by kernel_rfl) (by kernel_rfl) (by kernel_rfl) (by kernel_rfl) args w
theorem stopGuard (name : String) (w : World) : (FmtStop.guard name).run Ybaf.prog w = .ok () w := by kernel_rfl
theorem fmt0 : FmtStop.printed? ⟨#[37, 115, 32, 105, 115, 32, 103, 105, 118, 101, 110, 32, 116, 119, 105, 99, 101]⟩ 1 = some [(0, 115, false)] := by kernel_rfl
theorem fmt0r (w : World) : (FmtDoors.printed ⟨#[37, 115, 32, 105, 115, 32, 103, 105, 118, 101, 110, 32, 116, 119, 105, 99, 101]⟩ 1).run Ybaf.prog w = .ok [(0, 115, false)] w := by kernel_rfl
def shape9 : List UInt8 := [12, 6, 0, 0, 0, 0, 0, 0, 0, 115, 116, 114, 105, 110, 103]
theorem op9 (name : String) (x : ByteArray) (w : World) : (FmtStop.operand name true 115 false (.iface 9 (.string x))).run Ybaf.prog w = .ok (shape9, FmtStop.pack x.data.toList) w := by kernel_rfl
theorem ptr28 (w : World) : (FmtStop.ptrTo "errors.errorString").run Ybaf.prog w = .ok 28 w := by kernel_rfl
theorem elem28 (w : World) : (elemOf 28).run Ybaf.prog w = .ok 30 w := by kernel_rfl

def reading (nm : List UInt8) : List (List UInt8) := [[37, 115, 32, 105, 115, 32, 103, 105, 118, 101, 110, 32, 116, 119, 105, 99, 101], shape9, FmtStop.pack nm]

attribute [local go_sem] call8
attribute [local go_sem] stopGuard
attribute [local go_sem] fmt0
attribute [local go_sem] fmt0r
attribute [local go_sem] op9
attribute [local go_sem] ptr28
attribute [local go_sem] elem28

theorem info30 : Ybaf.prog.info? 30 = some Ybaf.t30 := by kernel_rfl
theorem info28 : Ybaf.prog.info? 28 = some Ybaf.t28 := by kernel_rfl
theorem size30 : Ybaf.t30.size ≠ 0 := by decide +kernel

/-- '!=' between two errors of errors.New's make at two blocks. -/
theorem neq_err {a b : Addr} {ca cb : Array Value} {ta tb : TypeId} (w : World)
    (hne : a ≠ b) (ha : w.heap[a.block]? = some (.cells ca ta (0, 0))) (hb : w.heap[b.block]? = some (.cells cb tb (0, 0))) :
    (binOp .neq 23 (.iface 28 (.pointer (some a))) (.iface 28 (.pointer (some b)))).run Ybaf.prog w = .ok (.bool true) w := by
  simp only [binOp]
  simp [Op.equal, Op.maxDepth, run_equalIn_iface_ptr_other w 9998 Ybaf.underlying23 Ybaf.underlying28 info28 (by kernel_rfl) info30 size30 hne ha hb]

theorem eql_err (a : Addr) (w : World) :
    (binOp .eql 23 (.iface 28 (.pointer (some a))) (.iface 28 (.pointer (some a)))).run Ybaf.prog w = .ok (.bool true) w :=
  run_eql_iface_ptr_same w a Ybaf.underlying23 Ybaf.underlying28 info28 (by kernel_rfl) info30

/-- The same in the world as the walk writes it: the sentinel's block is the second, the new error's the eighth. -/
theorem neq_shape (w : World) (o0 o2 o3 o4 o5 o6 : Obj) (c1 c7 : Array Value) :
    Sem.run Ybaf.prog (binOp .neq 23 (.iface 28 (.pointer (some ⟨w.heap.size + 1 + 1 + 1 + 1 + 1 + 1 + 1, 0, none⟩))) (.iface 28 (.pointer (some ⟨w.heap.size + 1, 0, none⟩))))
      ((((((((w.alloc o0).alloc (.cells c1 30)).alloc o2).alloc o3).alloc o4).alloc o5).alloc o6).alloc (.cells c7 30)).drew =
    .ok (.bool true) ((((((((w.alloc o0).alloc (.cells c1 30)).alloc o2).alloc o3).alloc o4).alloc o5).alloc o6).alloc (.cells c7 30)).drew := by
  refine neq_err (ca := c7) (cb := c1) (ta := 30) (tb := 30) _ (by simp) ?_ ?_
  · show ((((((((w.heap.push _).push _).push _).push _).push _).push _).push _).push _)[_]? = _
    simp only [Array.getElem?_push, Array.size_push]
    repeat (first | rw [if_pos trivial] | rw [if_neg (by omega)])
  · show ((((((((w.heap.push _).push _).push _).push _).push _).push _).push _).push _)[_]? = _
    simp only [Array.getElem?_push, Array.size_push]
    repeat (first | rw [if_pos trivial] | rw [if_neg (by omega)])

set_option maxHeartbeats 1000000 in
set_option maxRecDepth 100000 in
theorem walk_twice (F : Interp) (fd nm vl : ByteArray) (fail : Bool) (w : World) (hF : F.answers w.tape) (hne : fd.toList.isEmpty = false) :
    Calls Ybaf.prog 3 #[.string fd, .string nm, .string vl, .bool fail] w fun e w' => e = .returned (.bool true) ∧ Below w.heap.size w w' := by
  have hmf : ∀ (fn : Fn) (first cap : Array Value) (w : World), (Instr.makeFunc fn first cap).run Ybaf.prog w = .ok (.func fn first cap) w := fun _ _ _ _ => rfl
  have hF' : ∀ i name reading k range, w.tape i (.extern (word name reading k) range) = F name reading k := hF
  have hq := neq_shape
  go_enter Ybaf.func3, Ybaf.ntmps3
  go_wp2
  go_ret
  exact ⟨rfl, by repeat (first | exact Below.refl _ _ | apply Below.drew | refine Below.alloc ?_ (by simp; try omega) _)⟩

set_option maxHeartbeats 1000000 in
set_option maxRecDepth 100000 in
theorem walk_once (fd nm vl : ByteArray) (fail : Bool) (w : World) (hne : fd.toList.isEmpty = true) :
    Calls Ybaf.prog 3 #[.string fd, .string nm, .string vl, .bool fail] w fun e w' => e = .returned (.bool true) ∧ Below w.heap.size w w' := by
  have hmf : ∀ (fn : Fn) (first cap : Array Value) (w : World), (Instr.makeFunc fn first cap).run Ybaf.prog w = .ok (.func fn first cap) w := fun _ _ _ _ => rfl
  have he := eql_err
  cases fail
  · go_enter Ybaf.func3, Ybaf.ntmps3
    go_wp2
    go_ret
    exact ⟨rfl, by repeat (first | exact Below.refl _ _ | apply Below.drew | refine Below.alloc ?_ (by simp; try omega) _)⟩
  · go_enter Ybaf.func3, Ybaf.ntmps3
    go_wp2
    go_ret
    exact ⟨rfl, by repeat (first | exact Below.refl _ _ | apply Below.drew | refine Below.alloc ?_ (by simp; try omega) _)⟩
theorem walk (F : Interp) (fd nm vl : ByteArray) (fail : Bool) (w : World) (hF : F.answers w.tape) :
    Calls Ybaf.prog 3 #[.string fd, .string nm, .string vl, .bool fail] w fun e w' => e = .returned (.bool true) ∧ Below w.heap.size w w' := by
  cases hne : fd.toList.isEmpty with
  | false => exact walk_twice F fd nm vl fail w hF hne
  | true => exact walk_once fd nm vl fail w hne
end Go.Proofs.YbulkdoeyFmt.law

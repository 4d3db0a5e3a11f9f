/-
  Seat b0420aF: fail, walked: the Reader's error is set, to one of fmt.Errorf's make. The facts on fmt's stopped front at this dump are stated here (each by the kernel's evaluation).
-/
import Derived.Test.YbulkhreFmtReader
import Derived.Stop.CallBack
import Derived.Stop.IfaceNil
import GoSem.ClaimData
namespace Go.Proofs.YbulkhreFmt
open Go Go.RowKit Go.Extern.Stop Go.Stop Go.Extern

theorem call18 (args : Array Value) (w : World) : (callFunc 18 args).run Ybaf.prog w = ((FmtStop.errorf #[9, 45] #[29] args).run Ybaf.prog w).andThen fun v w' => .ok (.value v) w' :=
  run_callFunc_extern Ybaf.func18 (by kernel_rfl) (by kernel_rfl) (by kernel_rfl) (by kernel_rfl) args w
theorem guardF (name : String) (w : World) : (FmtStop.guard name).run Ybaf.prog w = .ok () w := by kernel_rfl
/-- The format of fail's text, its bytes. -/
theorem fmtF (w : World) : (FmtDoors.printed ⟨#[74, 83, 79, 78, 32, 97, 116, 32, 111, 102, 102, 115, 101, 116, 32, 37, 100, 58, 32, 37, 115]⟩ 2).run Ybaf.prog w = .ok [(0, 100, false), (1, 115, false)] w := by kernel_rfl
theorem fmtF? : FmtStop.printed? ⟨#[74, 83, 79, 78, 32, 97, 116, 32, 111, 102, 102, 115, 101, 116, 32, 37, 100, 58, 32, 37, 115]⟩ 2 = some [(0, 100, false), (1, 115, false)] := by kernel_rfl
def shape9 : List UInt8 := [12, 6, 0, 0, 0, 0, 0, 0, 0, 115, 116, 114, 105, 110, 103]
def shape3 : List UInt8 := [5, 3, 0, 0, 0, 0, 0, 0, 0, 105, 110, 116]
theorem op9 (name : String) (x : ByteArray) (w : World) : (FmtStop.operand name true 115 false (.iface 9 (.string x))).run Ybaf.prog w = .ok (shape9, FmtStop.pack x.data.toList) w := by kernel_rfl
theorem op3 (name : String) (x : Int) (w : World) : (FmtStop.operand name true 100 false (.iface 3 (.int .i64 x))).run Ybaf.prog w = .ok (shape3, Go.Extern.Stop.digits 8 (x % 2 ^ 64).toNat) w := by kernel_rfl
theorem op9n (name : String) (x : ByteArray) (w : World) : (FmtStop.operand name false 115 false (.iface 9 (.string x))).run Ybaf.prog w = .ok (shape9, FmtStop.pack x.data.toList) w := by kernel_rfl
theorem op3n (name : String) (x : Int) (w : World) : (FmtStop.operand name false 100 false (.iface 3 (.int .i64 x))).run Ybaf.prog w = .ok (shape3, Go.Extern.Stop.digits 8 (x % 2 ^ 64).toNat) w := by kernel_rfl
theorem ptrF (w : World) : (FmtStop.ptrTo "errors.errorString").run Ybaf.prog w = .ok 48 w := by kernel_rfl
theorem elemF (w : World) : (elemOf 48).run Ybaf.prog w = .ok 50 w := by kernel_rfl

theorem Rd.err {w : World} {R g n cap k : Nat} {D : List UInt8} {err : Value} (h : Rd w R g n cap D k err) (v : Value) : Rd (w.setCell ⟨R, 3, none⟩ v) R g n cap D k v := by
  refine ⟨heap_setCell_same w R 3 _ 31 _ h.blk, fun j hj => ?_, h.len, h.ne⟩
  rw [World.cell?_setCell_other _ _ _ _ (fun e => h.ne (congrArg Addr.block e).symm)]
  exact h.row j hj
theorem Rd.alloc {w : World} {R g n cap k : Nat} {D : List UInt8} {err : Value} (h : Rd w R g n cap D k err) (o : Obj) : Rd (w.alloc o) R g n cap D k err := by
  refine ⟨by rw [Below.heap_alloc w o R h.lt]; exact h.blk, fun j hj => ?_, h.len, h.ne⟩
  rw [World.cell?_alloc_lt _ _ _ (block_lt_of_cell (h.row j hj))]
  exact h.row j hj
theorem gb_alloc {w w' : World} {R : Option Nat} (h : w.grownBy w' R) (o : Obj) : w.grownBy (w'.alloc o) R :=
  gb_trans h (World.grownBy_alloc w' o R)

set_option maxHeartbeats 400000 in
theorem fail10 (F : Interp) (what : ByteArray) (R g n cap : Nat) (D : List UInt8) (k : Nat) (w : World) (h : Rd w R g n cap D k .nilIface) (hF : F.answers w.tape) :
    Calls Ybaf.prog 10 #[.pointer (some ⟨R, 0, none⟩), .string what] w fun e w' => e = .returned (.tuple #[]) ∧ (∃ a, Rd w' R g n cap D k (.iface 48 (.pointer (some a)))) ∧ w.grownBy w' (some R) := by
  have c1 := h.c1
  have c3 := h.c3
  have hlt := h.lt
  have f3 := h.fz 3
  have hF' := answers_open hF
  have a1 := call18
  have a2 := guardF
  have a3 := fmtF
  have a4 := fmtF?
  have a5 := op9
  have a6 := op3
  have a7 := op9n
  have a8 := op3n
  have a9 := ptrF
  have a10 := elemF
  go_enter Ybaf.func10, Ybaf.ntmps10
  go_wp2
  go_end0
  exact ⟨rfl, ⟨_, (((h.err _).alloc _).alloc _).drew⟩, gb_drew (gb_alloc (gb_alloc (gb_set (World.grownBy.refl _ _) 3 _) _) _)⟩
end Go.Proofs.YbulkhreFmt

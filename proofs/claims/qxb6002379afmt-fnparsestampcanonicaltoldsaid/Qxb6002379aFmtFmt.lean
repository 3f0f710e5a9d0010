import Derived.Test.Qxb6002379aFmtWkb
import Derived.Stop.CallBack
import Derived.Stop.IfaceNil
namespace Go.Proofs.Qxb6002379aFmt
open Go.RowKit Go.Extern.Stop Go.Stop Go.Extern

theorem call31 (args : Array Value) (w : World) : (callFunc 31 args).run Tryf.prog w = ((FmtStop.errorf #[9, 52] #[29] args).run Tryf.prog w).andThen fun v w' => .ok (.value v) w' :=
  run_callFunc_extern Tryf.func31 (by kernel_rfl) (by kernel_rfl) (by kernel_rfl) (by kernel_rfl) args w
theorem guardf (name : String) (w : World) : (FmtStop.guard name).run Tryf.prog w = .ok () w := by kernel_rfl

def f1 : ByteArray := ⟨#[116, 97, 108, 108, 121, 99, 108, 111, 99, 107, 58, 32, 37, 113, 32, 105, 115, 32, 110, 111, 116, 32, 97, 32, 115, 116, 97, 109, 112, 58, 32, 105, 116, 115, 32, 116, 105, 109, 101, 32, 105, 115, 32, 110, 111, 116, 32, 97, 110, 32, 105, 110, 116, 101, 103, 101, 114, 32, 102, 114, 111, 109, 32, 49, 32, 116, 111, 32, 37, 100, 32, 105, 110, 32, 112, 108, 97, 105, 110, 32, 100, 105, 103, 105, 116, 115]⟩
def f2 : ByteArray := ⟨#[116, 97, 108, 108, 121, 99, 108, 111, 99, 107, 58, 32, 37, 113, 32, 105, 115, 32, 110, 111, 116, 32, 97, 32, 115, 116, 97, 109, 112, 58, 32, 37, 119]⟩
def f3 : ByteArray := ⟨#[112, 114, 111, 99, 101, 115, 115, 32, 110, 97, 109, 101, 32, 105, 115, 32, 37, 100, 32, 98, 121, 116, 101, 115, 32, 108, 111, 110, 103, 59, 32, 116, 104, 101, 32, 108, 111, 110, 103, 101, 115, 116, 32, 97, 108, 108, 111, 119, 101, 100, 32, 105, 115, 32, 37, 100]⟩
def f4 : ByteArray := ⟨#[112, 114, 111, 99, 101, 115, 115, 32, 110, 97, 109, 101, 32, 37, 113, 32, 104, 97, 115, 32, 98, 121, 116, 101, 32, 48, 120, 37, 48, 50, 88, 32, 97, 116, 32, 111, 102, 102, 115, 101, 116, 32, 37, 100, 59, 32, 101, 118, 101, 114, 121, 32, 98, 121, 116, 101, 32, 109, 117, 115, 116, 32, 98, 101, 32, 102, 114, 111, 109, 32, 39, 33, 39, 32, 40, 48, 120, 50, 49, 41, 32, 116, 111, 32, 39, 126, 39, 32, 40, 48, 120, 55, 69, 41]⟩

theorem pr1 (w : World) : (FmtDoors.printed f1 2).run Tryf.prog w = .ok [(0, 113, false), (1, 100, false)] w := by kernel_rfl
theorem pr2 (w : World) : (FmtDoors.printed f2 2).run Tryf.prog w = .ok [(0, 113, false), (1, 119, false)] w := by kernel_rfl
theorem pr3 (w : World) : (FmtDoors.printed f3 2).run Tryf.prog w = .ok [(0, 100, false), (1, 100, false)] w := by kernel_rfl
theorem pr4 (w : World) : (FmtDoors.printed f4 3).run Tryf.prog w = .ok [(0, 113, false), (1, 88, false), (2, 100, false)] w := by kernel_rfl

theorem op_str (x : ByteArray) (w : World) : ∃ r, (FmtStop.operand "fmt.errorf" true 113 false (.iface 9 (.string x))).run Tryf.prog w = .ok r w := ⟨([12, 6, 0, 0, 0, 0, 0, 0, 0, 115, 116, 114, 105, 110, 103], FmtStop.pack x.data.toList), by kernel_rfl⟩
theorem op_u64 (x : Int) (w : World) : ∃ r, (FmtStop.operand "fmt.errorf" true 100 false (.iface 22 (.int .u64 x))).run Tryf.prog w = .ok r w := ⟨([9, 6, 0, 0, 0, 0, 0, 0, 0, 117, 105, 110, 116, 54, 52], Go.Extern.Stop.digits 8 (x % 2 ^ 64).toNat), by kernel_rfl⟩
theorem op_int (x : Int) (w : World) : ∃ r, (FmtStop.operand "fmt.errorf" true 100 false (.iface 3 (.int .i64 x))).run Tryf.prog w = .ok r w := ⟨([5, 3, 0, 0, 0, 0, 0, 0, 0, 105, 110, 116], Go.Extern.Stop.digits 8 (x % 2 ^ 64).toNat), by kernel_rfl⟩
theorem op_u8 (x : Int) (w : World) : ∃ r, (FmtStop.operand "fmt.errorf" true 88 false (.iface 5 (.int .u8 x))).run Tryf.prog w = .ok r w := ⟨([6, 5, 0, 0, 0, 0, 0, 0, 0, 117, 105, 110, 116, 56], Go.Extern.Stop.digits 8 (x % 2 ^ 64).toNat), by kernel_rfl⟩
theorem ptr58 (w : World) : (FmtStop.ptrTo "errors.errorString").run Tryf.prog w = .ok 58 w := by kernel_rfl
theorem elem58 (w : World) : (elemOf 58).run Tryf.prog w = .ok 60 w := by kernel_rfl
theorem ptr53 (w : World) : (FmtStop.ptrTo "fmt.wrapError").run Tryf.prog w = .ok 53 w := by kernel_rfl
theorem elem53 (w : World) : (elemOf 53).run Tryf.prog w = .ok 96 w := by kernel_rfl
theorem isError58 (w : World) : (FmtDoors.textMethod 58 "Error").run Tryf.prog w = .ok true w := by kernel_rfl

theorem op_err (a : Addr) (s : ByteArray) (w : World) (hc : w.cell? a = some (.string s)) : ∃ r, (FmtStop.operand "fmt.errorf" true 119 false (.iface 58 (.pointer (some a)))).run Tryf.prog w = .ok r w := by
  have h1 : ∃ nm, (typeStr 58).run Tryf.prog w = .ok nm w := ⟨_, rfl⟩
  obtain ⟨nm, h1⟩ := h1
  have d2 : Tryf.t58.desc = .pointer 60 := rfl
  have d3 : Tryf.t60.desc = .named "errors.errorString" 59 := rfl
  simp [FmtStop.operand, h1, d2, d3, run_load, hc]

/-- fmt.errorf at two operands, no wrap. -/
theorem ef_plain2 (f : ByteArray) (b : Nat) (v0 v1 : Value) (p0 p1 : UInt8) (w : World) (h0 : (p0 == 119) = false) (h1 : (p1 == 119) = false)
    (hp : ∀ w, (FmtDoors.printed f 2).run Tryf.prog w = .ok [(0, p0, false), (1, p1, false)] w)
    (c0 : w.cell? ⟨b, 0, none⟩ = some v0) (c1 : w.cell? ⟨b, 1, none⟩ = some v1)
    (o0 : ∃ r, (FmtStop.operand "fmt.errorf" true p0 false v0).run Tryf.prog w = .ok r w) (o1 : ∃ r, (FmtStop.operand "fmt.errorf" true p1 false v1).run Tryf.prog w = .ok r w) :
    ∃ t, (callFunc 31 #[.string f, .slice (some ⟨b, 0, none⟩) 2 2]).run Tryf.prog w = .ok (.value (.iface 58 (.pointer (some ⟨w.heap.size, 0, none⟩)))) (w.alloc (.cells #[.string t] 60)).drew := by
  obtain ⟨r0, o0⟩ := o0
  obtain ⟨r1, o1⟩ := o1
  rw [call31, FmtStop.errorf_lit]
  simp [guardf, FmtStop.cells, hp, FmtStop.readAll, o0, o1, h0, h1, ptr58, elem58, go_sem, c0, c1]
  exact ⟨_, rfl⟩

/-- fmt.errorf at three operands, no wrap. -/
theorem ef_plain3 (f : ByteArray) (b : Nat) (v0 v1 v2 : Value) (p0 p1 p2 : UInt8) (w : World) (h0 : (p0 == 119) = false) (h1 : (p1 == 119) = false) (h2 : (p2 == 119) = false)
    (hp : ∀ w, (FmtDoors.printed f 3).run Tryf.prog w = .ok [(0, p0, false), (1, p1, false), (2, p2, false)] w)
    (c0 : w.cell? ⟨b, 0, none⟩ = some v0) (c1 : w.cell? ⟨b, 1, none⟩ = some v1) (c2 : w.cell? ⟨b, 2, none⟩ = some v2)
    (o0 : ∃ r, (FmtStop.operand "fmt.errorf" true p0 false v0).run Tryf.prog w = .ok r w) (o1 : ∃ r, (FmtStop.operand "fmt.errorf" true p1 false v1).run Tryf.prog w = .ok r w)
    (o2 : ∃ r, (FmtStop.operand "fmt.errorf" true p2 false v2).run Tryf.prog w = .ok r w) :
    ∃ t, (callFunc 31 #[.string f, .slice (some ⟨b, 0, none⟩) 3 3]).run Tryf.prog w = .ok (.value (.iface 58 (.pointer (some ⟨w.heap.size, 0, none⟩)))) (w.alloc (.cells #[.string t] 60)).drew := by
  obtain ⟨r0, o0⟩ := o0
  obtain ⟨r1, o1⟩ := o1
  obtain ⟨r2, o2⟩ := o2
  rw [call31, FmtStop.errorf_lit]
  simp [guardf, FmtStop.cells, hp, FmtStop.readAll, o0, o1, o2, h0, h1, h2, ptr58, elem58, go_sem, c0, c1, c2]
  exact ⟨_, rfl⟩

/-- fmt.errorf at two operands, the second wrapped. -/
theorem ef_wrap2 (f : ByteArray) (b : Nat) (v0 : Value) (a : Addr) (p0 : UInt8) (w : World) (h0 : (p0 == 119) = false)
    (hp : ∀ w, (FmtDoors.printed f 2).run Tryf.prog w = .ok [(0, p0, false), (1, 119, false)] w)
    (c0 : w.cell? ⟨b, 0, none⟩ = some v0) (c1 : w.cell? ⟨b, 1, none⟩ = some (.iface 58 (.pointer (some a))))
    (o0 : ∃ r, (FmtStop.operand "fmt.errorf" true p0 false v0).run Tryf.prog w = .ok r w) (o1 : ∃ r, (FmtStop.operand "fmt.errorf" true 119 false (.iface 58 (.pointer (some a)))).run Tryf.prog w = .ok r w) :
    ∃ t, (callFunc 31 #[.string f, .slice (some ⟨b, 0, none⟩) 2 2]).run Tryf.prog w = .ok (.value (.iface 53 (.pointer (some ⟨w.heap.size, 0, none⟩)))) (w.alloc (.cells #[.string t, .iface 58 (.pointer (some a))] 96)).drew := by
  obtain ⟨r0, o0⟩ := o0
  obtain ⟨r1, o1⟩ := o1
  rw [call31, FmtStop.errorf_lit]
  simp [guardf, FmtStop.cells, hp, FmtStop.readAll, o0, o1, h0, ptr53, elem53, isError58, go_sem, c0, c1]
  exact ⟨_, rfl⟩
end Go.Proofs.Qxb6002379aFmt

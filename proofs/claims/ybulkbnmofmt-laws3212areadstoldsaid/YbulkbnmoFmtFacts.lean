/-
  CLOSED FACTS for the walks over fmt's stopped 'errorf' (17) at this program's numbers (after the guide's worked GuardFmt.lean), and fmt.Errorf (15) by two contracts: '%w' of an error of errors.New's make; three plain operands.
-/
import Derived.Test.YbulkbnmoFmtRows
import Derived.WalkKit
import Derived.WalkSpells
import Derived.Stop.CallBack
import Derived.Stop.IfaceNil
import GoSem.ClaimData
namespace Go.Proofs.YbulkbnmoFmt
open Go.RowKit Go.Extern.Stop Go.Stop Go.Extern
set_option linter.unusedVariables false

theorem call17 (args : Array Value) (w : World) : (callFunc 17 args).run Ybaf.prog w = ((FmtStop.errorf #[9, 69] #[25] args).run Ybaf.prog w).andThen fun v w' => .ok (.value v) w' :=
  run_callFunc_extern Ybaf.func17 (by kernel_rfl) (by kernel_rfl) (by kernel_rfl) (by kernel_rfl) args w
theorem guardF (name : String) (w : World) : (FmtStop.guard name).run Ybaf.prog w = .ok () w := by kernel_rfl
/-- The first format: read JSON, and the verb w. -/
theorem fmtA1 : FmtStop.printed? ⟨#[114, 101, 97, 100, 32, 74, 83, 79, 78, 58, 32, 37, 119]⟩ 1 = some [(0, 119, false)] := by kernel_rfl
theorem fmtA1r (w : World) : (FmtDoors.printed ⟨#[114, 101, 97, 100, 32, 74, 83, 79, 78, 58, 32, 37, 119]⟩ 1).run Ybaf.prog w = .ok [(0, 119, false)] w := by kernel_rfl
theorem ptr44 (w : World) : (FmtStop.ptrTo "errors.errorString").run Ybaf.prog w = .ok 44 w := by kernel_rfl
theorem elem44 (w : World) : (elemOf 44).run Ybaf.prog w = .ok 46 w := by kernel_rfl
theorem isError44 (w : World) : (FmtDoors.textMethod 44 "Error").run Ybaf.prog w = .ok true w := by kernel_rfl
/-- The type's name: a star and 'errors.errorString'. -/
def starName : String := String.ofList ['*', 'e', 'r', 'r', 'o', 'r', 's', '.', 'e', 'r', 'r', 'o', 'r', 'S', 't', 'r', 'i', 'n', 'g']
def plain44 : List UInt8 := 14 :: FmtStop.pack starName.toUTF8.data.toList
theorem opPlain44_119w (name : String) (a : Addr) (s : ByteArray) (w : World) (hc : w.cell? a = some (.string s)) :
    (FmtStop.operand name true 119 false (.iface 44 (.pointer (some a)))).run Ybaf.prog w = .ok (plain44, s.data.toList) w := by
  have h1 : (typeStr 44).run Ybaf.prog w = .ok starName w := by kernel_rfl
  have d2 : Ybaf.t44.desc = .pointer 46 := rfl
  have d3 : Ybaf.t46.desc = .named "errors.errorString" 45 := rfl
  simp [FmtStop.operand, h1, d2, d3, run_load, hc, plain44]
theorem ptr70 (w : World) : (FmtStop.ptrTo "fmt.wrapError").run Ybaf.prog w = .ok 70 w := by kernel_rfl
theorem elem70 (w : World) : (elemOf 70).run Ybaf.prog w = .ok 98 w := by kernel_rfl
theorem isError70 (w : World) : (FmtDoors.textMethod 70 "Error").run Ybaf.prog w = .ok true w := by kernel_rfl

/-- The second format: the verbs d, s, q. -/
theorem fmtB3 : FmtStop.printed? ⟨#[110, 111, 116, 32, 118, 97, 108, 105, 100, 32, 74, 83, 79, 78, 58, 32, 97, 116, 32, 98, 121, 116, 101, 32, 37, 100, 58, 32, 119, 97, 110, 116, 32, 37, 115, 44, 32, 102, 111, 117, 110, 100, 32, 37, 113]⟩ 3 = some [(0, 100, false), (1, 115, false), (2, 113, false)] := by kernel_rfl
theorem fmtB3r (w : World) : (FmtDoors.printed ⟨#[110, 111, 116, 32, 118, 97, 108, 105, 100, 32, 74, 83, 79, 78, 58, 32, 97, 116, 32, 98, 121, 116, 101, 32, 37, 100, 58, 32, 119, 97, 110, 116, 32, 37, 115, 44, 32, 102, 111, 117, 110, 100, 32, 37, 113]⟩ 3).run Ybaf.prog w = .ok [(0, 100, false), (1, 115, false), (2, 113, false)] w := by kernel_rfl
def shape2 : List UInt8 := [5, 5, 0, 0, 0, 0, 0, 0, 0, 105, 110, 116, 54, 52]
def shape9 : List UInt8 := [12, 6, 0, 0, 0, 0, 0, 0, 0, 115, 116, 114, 105, 110, 103]
def shape5 : List UInt8 := [6, 5, 0, 0, 0, 0, 0, 0, 0, 117, 105, 110, 116, 56]
theorem op2_100w (name : String) (x : Int) (w : World) : (FmtStop.operand name true 100 false (.iface 2 (.int .i64 x))).run Ybaf.prog w = .ok (shape2, Go.Extern.Stop.digits 8 (x % 2 ^ 64).toNat) w := by kernel_rfl
theorem op9_115w (name : String) (x : ByteArray) (w : World) : (FmtStop.operand name true 115 false (.iface 9 (.string x))).run Ybaf.prog w = .ok (shape9, FmtStop.pack x.data.toList) w := by kernel_rfl
theorem op5_113w (name : String) (x : Int) (w : World) : (FmtStop.operand name true 113 false (.iface 5 (.int .u8 x))).run Ybaf.prog w = .ok (shape5, Go.Extern.Stop.digits 8 (x % 2 ^ 64).toNat) w := by kernel_rfl

set_option maxHeartbeats 1000000 in
/-- fmt.Errorf of the first format and an error of errors.New's make: a new *fmt.wrapError that holds it. -/
theorem errorf_wrap (F : Interp) (b : Nat) (a : Addr) (s : ByteArray) (w : World) (hF : F.answers w.tape) (h0 : w.cell? ⟨b, 0, none⟩ = some (.iface 44 (.pointer (some a)))) (hs : w.cell? a = some (.string s)) :
    Calls Ybaf.prog 15 #[.string ⟨#[114, 101, 97, 100, 32, 74, 83, 79, 78, 58, 32, 37, 119]⟩, .slice (some ⟨b, 0, none⟩) 1 1] w fun e w' => e = .returned (.iface 70 (.pointer (some ⟨w.heap.size, 0, none⟩))) ∧
      ∃ t, w' = (w.alloc (.cells #[.string t, .iface 44 (.pointer (some a))] 98)).drew := by
  have hF' := answers_open hF
  have hop := opPlain44_119w "fmt.errorf" a s w hs
  have k1 := call17; have k2 := guardF; have k3 := fmtA1; have k4 := fmtA1r; have k5 := ptr44; have k6 := elem44; have k7 := isError44; have k8 := ptr70; have k9 := elem70; have k10 := isError70
  go_enter Ybaf.func15, Ybaf.ntmps15
  go_wp2
  go_ret
  exact ⟨rfl, _, rfl⟩

set_option maxHeartbeats 1000000 in
/-- fmt.Errorf of the second format, an int64, a string, a byte: a new error of errors.New's make. -/
theorem errorf_plain (F : Interp) (b : Nat) (x y : Int) (s : ByteArray) (w : World) (hF : F.answers w.tape) (h0 : w.cell? ⟨b, 0, none⟩ = some (.iface 2 (.int .i64 x))) (h1 : w.cell? ⟨b, 1, none⟩ = some (.iface 9 (.string s))) (h2 : w.cell? ⟨b, 2, none⟩ = some (.iface 5 (.int .u8 y))) :
    Calls Ybaf.prog 15 #[.string ⟨#[110, 111, 116, 32, 118, 97, 108, 105, 100, 32, 74, 83, 79, 78, 58, 32, 97, 116, 32, 98, 121, 116, 101, 32, 37, 100, 58, 32, 119, 97, 110, 116, 32, 37, 115, 44, 32, 102, 111, 117, 110, 100, 32, 37, 113]⟩, .slice (some ⟨b, 0, none⟩) 3 3] w fun e w' => e = .returned (.iface 44 (.pointer (some ⟨w.heap.size, 0, none⟩))) ∧
      ∃ t, w' = (w.alloc (.cells #[.string t] 46)).drew := by
  have hF' := answers_open hF
  have k1 := call17; have k2 := guardF; have k3 := fmtB3; have k4 := fmtB3r; have k5 := ptr44; have k6 := elem44; have k7 := isError44; have k8 := ptr70; have k9 := elem70; have k10 := isError70
  have o1 := op2_100w; have o2 := op9_115w; have o3 := op5_113w
  go_enter Ybaf.func15, Ybaf.ntmps15
  go_wp2
  go_ret
  exact ⟨rfl, _, rfl⟩

/-- errors.New. -/
theorem new_any (s : ByteArray) (w : World) : Calls Ybaf.prog 4 #[.string s] w fun e w' => e = .returned (.iface 44 (.pointer (some ⟨w.heap.size, 0, none⟩))) ∧ w' = w.alloc (.cells #[.string s] 46) := by
  go_enter Ybaf.func4, Ybaf.ntmps4
  go_wp2
  go_ret
  exact ⟨rfl, rfl⟩
end Go.Proofs.YbulkbnmoFmt

/-
  fmt.Errorf at the two places where the road comes to it: closed facts on the stop, and a contract a place.
-/
import Derived.Test.Qxb6614018aFmtRows
import Derived.WalkKit
import Derived.WalkSpells
import Derived.WalkLawsBesides
import Derived.Stop.CallBack
import Derived.Stop.IfaceNil
import GoSem.ClaimData
namespace Go.Proofs.Qxb6614018aFmt
open Go.RowKit Go.Extern.Stop Go.Stop Go.Extern

theorem call26 (args : Array Value) (w : World) : (callFunc 26 args).run Tryf.prog w = ((FmtStop.errorf #[9, 57] #[27] args).run Tryf.prog w).andThen fun v w' => .ok (.value v) w' :=
  run_callFunc_extern Tryf.func26 (by kernel_rfl) (by kernel_rfl) (by kernel_rfl) (by kernel_rfl) args w
theorem fguard (name : String) (w : World) : (FmtStop.guard name).run Tryf.prog w = .ok () w := by kernel_rfl
-- the two formats
theorem fmtA : FmtStop.printed? ⟨#[37, 115, 32, 119, 105, 116, 104, 32, 110, 101, 103, 97, 116, 105, 118, 101, 32, 108, 101, 110, 103, 116, 104, 32, 37, 100]⟩ 2 = some [(0, 115, false), (1, 100, false)] := by kernel_rfl
theorem fmtAr (w : World) : (FmtDoors.printed ⟨#[37, 115, 32, 119, 105, 116, 104, 32, 110, 101, 103, 97, 116, 105, 118, 101, 32, 108, 101, 110, 103, 116, 104, 32, 37, 100]⟩ 2).run Tryf.prog w = .ok [(0, 115, false), (1, 100, false)] w := by kernel_rfl
theorem fmtB : FmtStop.printed? ⟨#[97, 32, 114, 101, 112, 108, 121, 32, 116, 104, 97, 116, 32, 105, 115, 32, 110, 111, 116, 32, 119, 104, 111, 108, 101, 58, 32, 37, 119]⟩ 1 = some [(0, 119, false)] := by kernel_rfl
theorem fmtBr (w : World) : (FmtDoors.printed ⟨#[97, 32, 114, 101, 112, 108, 121, 32, 116, 104, 97, 116, 32, 105, 115, 32, 110, 111, 116, 32, 119, 104, 111, 108, 101, 58, 32, 37, 119]⟩ 1).run Tryf.prog w = .ok [(0, 119, false)] w := by kernel_rfl
-- the operands
def shape9 : List UInt8 := [12, 6, 0, 0, 0, 0, 0, 0, 0, 115, 116, 114, 105, 110, 103]
theorem op9 (name : String) (x : ByteArray) (w : World) : (FmtStop.operand name true 115 false (.iface 9 (.string x))).run Tryf.prog w = .ok (shape9, FmtStop.pack x.data.toList) w := by kernel_rfl
def shape21 : List UInt8 := [4, 5, 0, 0, 0, 0, 0, 0, 0, 105, 110, 116, 51, 50]
theorem op21 (name : String) (x : Int) (w : World) : (FmtStop.operand name true 100 false (.iface 21 (.int .i32 x))).run Tryf.prog w = .ok (shape21, Go.Extern.Stop.digits 8 (x % 2 ^ 64).toNat) w := by kernel_rfl
theorem ptr64 (w : World) : (FmtStop.ptrTo "errors.errorString").run Tryf.prog w = .ok 64 w := by kernel_rfl
theorem elem64 (w : World) : (elemOf 64).run Tryf.prog w = .ok 66 w := by kernel_rfl
theorem isError64 (w : World) : (FmtDoors.textMethod 64 "Error").run Tryf.prog w = .ok true w := by kernel_rfl
def name64 : String := String.singleton (Char.ofNat 42) ++ "errors.errorString"
def plain64 : List UInt8 := 14 :: FmtStop.pack name64.toUTF8.data.toList
theorem opPlain64 (name : String) (a : Addr) (s : ByteArray) (w : World) (hc : w.cell? a = some (.string s)) :
    (FmtStop.operand name true 119 false (.iface 64 (.pointer (some a)))).run Tryf.prog w = .ok (plain64, s.data.toList) w := by
  have h1 : (typeStr 64).run Tryf.prog w = .ok name64 w := by kernel_rfl
  have d2 : Tryf.t64.desc = .pointer 66 := rfl
  have d3 : Tryf.t66.desc = .named "errors.errorString" 65 := rfl
  simp [FmtStop.operand, h1, d2, d3, run_load, hc, plain64]
theorem ptr59 (w : World) : (FmtStop.ptrTo "fmt.wrapError").run Tryf.prog w = .ok 59 w := by kernel_rfl
theorem elem59 (w : World) : (elemOf 59).run Tryf.prog w = .ok 86 w := by kernel_rfl
theorem isError59 (w : World) : (FmtDoors.textMethod 59 "Error").run Tryf.prog w = .ok true w := by kernel_rfl

attribute [local go_sem] call26 fguard fmtA fmtAr fmtB fmtBr op9 op21 ptr64 elem64 isError64 ptr59 elem59 isError59

set_option maxHeartbeats 400000 in
theorem errorf_neg (F : Interp) (B : Nat) (what : ByteArray) (n : Int) (w : World) (hF : F.answers w.tape)
    (c0 : w.cell? ⟨B, 0, none⟩ = some (.iface 9 (.string what))) (c1 : w.cell? ⟨B, 1, none⟩ = some (.iface 21 (.int .i32 n))) :
    Calls Tryf.prog 21 #[.string ⟨#[37, 115, 32, 119, 105, 116, 104, 32, 110, 101, 103, 97, 116, 105, 118, 101, 32, 108, 101, 110, 103, 116, 104, 32, 37, 100]⟩, .slice (some ⟨B, 0, none⟩) 2 2] w fun e w' =>
      ∃ s : ByteArray, e = .returned (.iface 64 (.pointer (some ⟨w.heap.size, 0, none⟩))) ∧ w' = (w.alloc (.cells #[.string s] 66)).drew := by
  have hF' := answers_open hF
  go_enter Tryf.func21, Tryf.ntmps21
  go_wp2
  go_ret
  exact ⟨_, rfl, rfl⟩

set_option maxHeartbeats 400000 in
theorem errorf_wrap (F : Interp) (B : Nat) (a : Addr) (s : ByteArray) (w : World) (hF : F.answers w.tape)
    (c0 : w.cell? ⟨B, 0, none⟩ = some (.iface 64 (.pointer (some a)))) (hs : w.cell? a = some (.string s)) :
    Calls Tryf.prog 21 #[.string ⟨#[97, 32, 114, 101, 112, 108, 121, 32, 116, 104, 97, 116, 32, 105, 115, 32, 110, 111, 116, 32, 119, 104, 111, 108, 101, 58, 32, 37, 119]⟩, .slice (some ⟨B, 0, none⟩) 1 1] w fun e w' =>
      ∃ s : ByteArray, e = .returned (.iface 59 (.pointer (some ⟨w.heap.size, 0, none⟩))) ∧ w' = (w.alloc (.cells #[.string s, .iface 64 (.pointer (some a))] 86)).drew := by
  have hF' := answers_open hF
  have hop := opPlain64 "fmt.errorf" a s w hs
  go_enter Tryf.func21, Tryf.ntmps21
  go_wp2
  go_ret
  exact ⟨_, rfl, rfl⟩
#print axioms errorf_neg
#print axioms errorf_wrap
end Go.Proofs.Qxb6614018aFmt

import Derived.Test.Qxb6605643aFmtProg
import Derived.Stop.CallBack
import Derived.Stop.IfaceNil
import GoSem.ClaimData
import Derived.WalkKit
import Derived.WalkSpells
namespace Go.Proofs.Qxb6605643aFmt
open Go.RowKit Go.Extern.Stop Go.Stop Go.Extern

theorem call8 (args : Array Value) (w : World) : (callFunc 8 args).run Tryf.prog w = ((FmtStop.errorf #[9, 27] #[24] args).run Tryf.prog w).andThen fun v w' => .ok (.value v) w' :=
  run_callFunc_extern Tryf.func8 (by kernel_rfl) (by kernel_rfl) (by kernel_rfl) (by kernel_rfl) args w
theorem guardF (name : String) (w : World) : (FmtStop.guard name).run Tryf.prog w = .ok () w := by kernel_rfl
theorem fmt0 : FmtStop.printed? ⟨#[37, 113, 32, 105, 115, 32, 109, 105, 115, 115, 105, 110, 103]⟩ 1 = some [(0, 113, false)] := by kernel_rfl
theorem fmt0r (w : World) : (FmtDoors.printed ⟨#[37, 113, 32, 105, 115, 32, 109, 105, 115, 115, 105, 110, 103]⟩ 1).run Tryf.prog w = .ok [(0, 113, false)] w := by kernel_rfl
def shape9 : List UInt8 := [12, 6, 0, 0, 0, 0, 0, 0, 0, 115, 116, 114, 105, 110, 103]
theorem op9_113 (name : String) (x : ByteArray) (w : World) : (FmtStop.operand name false 113 false (.iface 9 (.string x))).run Tryf.prog w = .ok (shape9, FmtStop.pack x.data.toList) w := by kernel_rfl
theorem op9_113w (name : String) (x : ByteArray) (w : World) : (FmtStop.operand name true 113 false (.iface 9 (.string x))).run Tryf.prog w = .ok (shape9, FmtStop.pack x.data.toList) w := by kernel_rfl
theorem ptr29 (w : World) : (FmtStop.ptrTo "errors.errorString").run Tryf.prog w = .ok 29 w := by kernel_rfl
theorem elem29 (w : World) : (elemOf 29).run Tryf.prog w = .ok 31 w := by kernel_rfl

/-- The ending is 'returned a bool'. -/
def IsBool (e : Ending) : Prop := ∃ v : Bool, e = .returned (.bool v)
theorem IsBool.mk {e : Ending} {v : Bool} (h : e = .returned (.bool v)) : IsBool e := ⟨v, h⟩

theorem bytes4 (s : ByteArray) (hs : s.size ≤ maxLen) (w : World) : Calls Tryf.prog 4 #[.string s] w fun e w' => IsBool e ∧ w' = w := by
  unfold maxLen at hs
  go_enter Tryf.func4, Tryf.ntmps4
  go_wp2
  all_goals (go_ret; exact ⟨IsBool.mk rfl, rfl⟩)

theorem missing (F : Interp) (s : ByteArray) (w : World) (hF : F.answers w.tape) :
    Calls Tryf.prog 5 #[.string s] w fun e w' => e = .returned (.iface 29 (.pointer (some ⟨w.heap.size + 1, 0, none⟩))) ∧ Below w.heap.size w w' := by
  have hF' := answers_open hF
  have a1 := call8
  have a2 := guardF
  have a3 := fmt0
  have a4 := fmt0r
  have a5 := op9_113
  have a6 := op9_113w
  have a7 := ptr29
  have a8 := elem29
  go_enter Tryf.func5, Tryf.ntmps5
  go_wp2
  go_ret
  exact ⟨rfl, (((Below.refl _ _).alloc (Nat.le_refl _) _).alloc (by simp) _).drew⟩

theorem walk (F : Interp) (s : ByteArray) (hs : s.size ≤ maxLen) (w : World) (hF : F.answers w.tape) :
    Calls Tryf.prog 3 #[.string s] w fun e w' => e = .returned (.bool true) ∧ Below w.heap.size w w' := by
  have L : Hid (s.size ≤ maxLen) := hs
  unfold maxLen at hs
  have HF : Hid (F.answers w.tape) := hF
  clear hF
  go_enter Tryf.func3, Tryf.ntmps3
  go_wp2_with fail
  refine (bytes4 s L.out _).mono ?_
  rintro e w' ⟨⟨v, rfl⟩, rfl⟩
  cases v
  · go_wp2_with fail
    go_ret
    exact ⟨rfl, Below.refl _ _⟩
  by_cases b : 262144 < s.size
  · go_wp2_with fail
    go_ret
    exact ⟨rfl, Below.refl _ _⟩
  go_wp2_with fail
  refine (missing F s _ HF.out).mono ?_
  rintro e w1 ⟨rfl, hb⟩
  go_wp2_with fail
  go_ret
  exact ⟨rfl, hb⟩
end Go.Proofs.Qxb6605643aFmt

import Derived.Test.YbulkcxrgFmtWrite
import Derived.Stop.CallBack
import Derived.Stop.IfaceNil
import Derived.Stop.Texts
import Derived.Stop.FmtTextKit
import Derived.Stop.FmtTextVerbs
import Derived.Stop.Told
import Derived.SizedLaws
import Derived.Laws.IdiomStrings
namespace Go.Proofs.YbulkcxrgFmt
open Go.RowKit Go.Extern.Stop Go.Stop Go.Extern
set_option linter.unusedVariables false

/-! ### THE STOP: fmt.Sprintf is function 7 -/
theorem call7 (args : Array Value) (w : World) : (callFunc 7 args).run Ybaf.prog w = ((FmtStop.sprintf #[9, 52] #[9] args).run Ybaf.prog w).andThen fun v w' => .ok (.value v) w' :=
  run_callFunc_extern Ybaf.func7 (by kernel_rfl) (by kernel_rfl) (by kernel_rfl) (by kernel_rfl) args w
theorem guard7 (name : String) (w : World) : (FmtStop.guard name).run Ybaf.prog w = .ok () w := by kernel_rfl
theorem fmtP : FmtStop.printed? ⟨#[115, 116, 97, 116, 105, 99, 32, 99, 111, 110, 115, 116, 32, 116, 97, 114, 110, 95, 102, 117, 110, 99, 32, 37, 115, 32, 61, 32, 123, 116, 97, 114, 110, 95, 98, 117, 105, 108, 116, 105, 110, 95, 37, 115, 44, 32, 37, 100, 44, 32, 37, 100, 44, 32, 48, 125, 59, 10]⟩ 4 = some [(0, 115, false), (1, 115, false), (2, 100, false), (3, 100, false)] := by kernel_rfl
theorem fmtR (w : World) : (FmtDoors.printed ⟨#[115, 116, 97, 116, 105, 99, 32, 99, 111, 110, 115, 116, 32, 116, 97, 114, 110, 95, 102, 117, 110, 99, 32, 37, 115, 32, 61, 32, 123, 116, 97, 114, 110, 95, 98, 117, 105, 108, 116, 105, 110, 95, 37, 115, 44, 32, 37, 100, 44, 32, 37, 100, 44, 32, 48, 125, 59, 10]⟩ 4).run Ybaf.prog w = .ok [(0, 115, false), (1, 115, false), (2, 100, false), (3, 100, false)] w := by kernel_rfl
def shape3 : List UInt8 := [5, 3, 0, 0, 0, 0, 0, 0, 0, 105, 110, 116]
def shape9 : List UInt8 := [12, 6, 0, 0, 0, 0, 0, 0, 0, 115, 116, 114, 105, 110, 103]
theorem op3 (name : String) (x : Int) (w : World) : (FmtStop.operand name false 100 false (.iface 3 (.int .i64 x))).run Ybaf.prog w = .ok (shape3, Go.Extern.Stop.digits 8 (x % 2 ^ 64).toNat) w := by kernel_rfl
theorem op9 (name : String) (x : ByteArray) (w : World) : (FmtStop.operand name false 115 false (.iface 9 (.string x))).run Ybaf.prog w = .ok (shape9, FmtStop.pack x.data.toList) w := by kernel_rfl

/-! ### THE TEXT -/
def lineReading (a0 a1 : List UInt8) (a2 a3 : Int) : List (List UInt8) :=
  [[115, 116, 97, 116, 105, 99, 32, 99, 111, 110, 115, 116, 32, 116, 97, 114, 110, 95, 102, 117, 110, 99, 32, 37, 115, 32, 61, 32, 123, 116, 97, 114, 110, 95, 98, 117, 105, 108, 116, 105, 110, 95, 37, 115, 44, 32, 37, 100, 44, 32, 37, 100, 44, 32, 48, 125, 59, 10], shape9, FmtStop.pack a0, shape9, FmtStop.pack a1, shape3, digits 8 (a2 % 18446744073709551616).toNat, shape3, digits 8 (a3 % 18446744073709551616).toNat]
def lineText (a0 a1 : List UInt8) (a2 a3 : Int) : List UInt8 := [115, 116, 97, 116, 105, 99, 32, 99, 111, 110, 115, 116, 32, 116, 97, 114, 110, 95, 102, 117, 110, 99, 32] ++ a0 ++ [32, 61, 32, 123, 116, 97, 114, 110, 95, 98, 117, 105, 108, 116, 105, 110, 95] ++ a1 ++ [44, 32] ++ Lib.itoa a2 ++ [44, 32] ++ Lib.itoa a3 ++ [44, 32, 48, 125, 59, 10]
theorem line_parse : (FmtText.parse [115, 116, 97, 116, 105, 99, 32, 99, 111, 110, 115, 116, 32, 116, 97, 114, 110, 95, 102, 117, 110, 99, 32, 37, 115, 32, 61, 32, 123, 116, 97, 114, 110, 95, 98, 117, 105, 108, 116, 105, 110, 95, 37, 115, 44, 32, 37, 100, 44, 32, 37, 100, 44, 32, 48, 125, 59, 10]).map FmtText.glue = some [.lit [115, 116, 97, 116, 105, 99, 32, 99, 111, 110, 115, 116, 32, 116, 97, 114, 110, 95, 102, 117, 110, 99, 32], .verb {} 115, .lit [32, 61, 32, 123, 116, 97, 114, 110, 95, 98, 117, 105, 108, 116, 105, 110, 95], .verb {} 115, .lit [44, 32], .verb {} 100, .lit [44, 32], .verb {} 100, .lit [44, 32, 48, 125, 59, 10]] := by rfl
theorem line_law (a0 a1 : List UInt8) (a2 a3 : Int) (w2 : (Lit.int .i64 a2).wf = true) (w3 : (Lit.int .i64 a3).wf = true) (l0 : a0.length < 2 ^ 64) (l1 : a1.length < 2 ^ 64) : FmtText.text "fmt.Sprintf" (lineReading a0 a1 a2 a3) = some (lineText a0 a1 a2 a3) := by
  rw [lineReading, FmtText.text_sprintf_glued line_parse (FmtText.operands_cons (FmtText.operand_str_at (sh := shape9) rfl rfl a0 l0) (FmtText.operands_cons (FmtText.operand_str_at (sh := shape9) rfl rfl a1 l1) (FmtText.operands_cons (FmtText.operand_int_at (sh := shape3) (k := .i64) rfl rfl a2 w2) (FmtText.operands_cons (FmtText.operand_int_at (sh := shape3) (k := .i64) rfl rfl a3 w3) FmtText.operands_nil))))]
  simp [FmtText.render, FmtText.printArg_s_str, FmtText.printArg_d _ _ w2, FmtText.printArg_d _ _ w3, lineText]
theorem line_len (a0 a1 : List UInt8) (a2 a3 : Int) (w2 : (Lit.int .i64 a2).wf = true) (w3 : (Lit.int .i64 a3).wf = true) : 1 ≤ (lineText a0 a1 a2 a3).length ∧ (lineText a0 a1 a2 a3).length ≤ a0.length + a1.length + 200 := by
  have k2 := FmtText.itoa_length_le w2
  have k3 := FmtText.itoa_length_le w3
  simp [lineText]
  omega
theorem line_told (F : Interp) (a0 a1 : List UInt8) (a2 a3 : Int) (w2 : (Lit.int .i64 a2).wf = true) (w3 : (Lit.int .i64 a3).wf = true) (r0 : a0.length ≤ 281474976710656) (r1 : a1.length ≤ 281474976710656) : F.told.string "fmt.Sprintf" (lineReading a0 a1 a2 a3) 0 = lineText a0 a1 a2 a3 := by
  have hl := line_len a0 a1 a2 a3 w2 w3
  refine told_string F (line_law a0 a1 a2 a3 w2 w3 (by omega) (by omega)) ?_
  omega
end Go.Proofs.YbulkcxrgFmt

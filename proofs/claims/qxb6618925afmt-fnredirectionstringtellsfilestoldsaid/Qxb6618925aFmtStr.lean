/-
  The walk of 'redirection.String' and of 'ZZredirectionString': what fmt is asked, and, with fmt's text told, the very bytes.
-/
import Derived.Test.Qxb6618925aFmtRows
import Derived.Test.Qxb6618925aFmtQuote
import Derived.Stop.CallBack
import Derived.Stop.IfaceNil
import Derived.Stop.FmtTextVerbs
import Derived.Stop.FmtTextKit
import Derived.Stop.Texts
import Derived.Stop.JoinedTold
import Derived.Stop.FmtTextWidths
import Derived.WalkKit
import Derived.WalkSpells
import Derived.WalkLawsBesides
namespace Go.Proofs.Qxb6618925aFmt
open Go.RowKit Go.Extern.Stop Go.Stop Go.Extern

theorem call11 (args : Array Value) (w : World) : (callFunc 11 args).run Tryf.prog w = ((FmtStop.sprintf #[9, 52] #[9] args).run Tryf.prog w).andThen fun v w' => .ok (.value v) w' :=
  run_callFunc_extern Tryf.func11 (by kernel_rfl) (by kernel_rfl) (by kernel_rfl) (by kernel_rfl) args w
theorem guardOk (name : String) (w : World) : (FmtStop.guard name).run Tryf.prog w = .ok () w := by kernel_rfl
theorem fmtA : FmtStop.printed? ⟨#[37, 115, 32, 37, 113]⟩ 2 = some [(0, 115, false), (1, 113, false)] := by kernel_rfl
theorem fmtAr (w : World) : (FmtDoors.printed ⟨#[37, 115, 32, 37, 113]⟩ 2).run Tryf.prog w = .ok [(0, 115, false), (1, 113, false)] w := by kernel_rfl
theorem name9 : Tryf.prog.typeName? 3 9 = some "string" := by kernel_rfl
def shape9 : List UInt8 := [12, 6, 0, 0, 0, 0, 0, 0, 0, 115, 116, 114, 105, 110, 103]
theorem op9_115 (name : String) (x : ByteArray) (w : World) : (FmtStop.operand name false 115 false (.iface 9 (.string x))).run Tryf.prog w = .ok (shape9, FmtStop.pack x.data.toList) w := by kernel_rfl
theorem op9_113 (name : String) (x : ByteArray) (w : World) : (FmtStop.operand name false 113 false (.iface 9 (.string x))).run Tryf.prog w = .ok (shape9, FmtStop.pack x.data.toList) w := by kernel_rfl
theorem strict9 (name : String) (x : ByteArray) (w : World) : (FmtStop.strict name (.iface 9 (.string x))).run Tryf.prog w = .ok (shape9, FmtStop.pack x.data.toList) w := by kernel_rfl

/-- What fmt is asked. -/
def reading (op text : List UInt8) : List (List UInt8) := [[37, 115, 32, 37, 113], shape9, FmtStop.pack op, shape9, FmtStop.pack text]
/-- The text: the operator, a blank, the file's text as '%q' writes it. -/
def tText (op text : List UInt8) : List UInt8 := op ++ [32] ++ FmtText.quote false text

theorem t_parse : (FmtText.parse [37, 115, 32, 37, 113]).map FmtText.glue = some [.verb {} 115, .lit [32], .verb {} 113] := by rfl

theorem t_text (op text : List UInt8) (h1 : op.length < 2 ^ 64) (h2 : text.length < 2 ^ 64) : FmtText.text "fmt.Sprintf" (reading op text) = some (tText op text) := by
  have ho := FmtText.operand_str_at (sh := shape9) rfl rfl op h1
  have hn := FmtText.operand_str_at (sh := shape9) rfl rfl text h2
  rw [reading, FmtText.text_sprintf_glued t_parse (FmtText.operands_cons ho (FmtText.operands_cons hn FmtText.operands_nil))]
  simp [FmtText.render, FmtText.printArg_s_str, FmtText.printArg_q_str, tText]

set_option maxHeartbeats 400000 in
theorem str10 (F : Interp) (op text : ByteArray) (b1 b2 b3 b4 : Bool) (sl : Value) (n : Int) (w : World) (hF : F.answers w.tape) :
    Calls Tryf.prog 10 #[.agg #[.string op, .string text, .bool b1, .bool b2, .slice none 0 0, .bool b3, .bool b4, sl, .int .i64 n]] w fun e w' => e = .returned (.string (FmtStop.textOf (F "fmt.Sprintf" (reading op.data.toList text.data.toList) 0))) ∧ Below w.heap.size w w' := by
  have hF' := answers_open hF
  have c11 := call11
  have cg := guardOk
  have cf := fmtA
  have cfr := fmtAr
  have c115 := op9_115
  have c113 := op9_113
  have cst := strict9
  go_enter Tryf.func10, Tryf.ntmps10
  go_wp2
  go_ret
  refine ⟨rfl, ?_⟩
  repeat (first | exact Below.refl _ _ | apply Below.drew | refine Below.alloc ?_ (by simp) _ | refine Below.alloc ?_ (by simp; omega) _)

set_option maxHeartbeats 400000 in
theorem str6 (F : Interp) (op text : ByteArray) (b1 b2 b3 b4 : Bool) (sa : Option Addr) (sn sc : Nat) (n : Int) (w : World) (hF : F.answers w.tape) :
    Calls Tryf.prog 6 #[.string op, .string text, .bool b1, .bool b2, .bool b3, .bool b4, .slice sa sn sc, .int .i64 n] w fun e w' => e = .returned (.string (FmtStop.textOf (F "fmt.Sprintf" (reading op.data.toList text.data.toList) 0))) ∧ Below w.heap.size w w' := by
  go_enter Tryf.func6, Tryf.ntmps6
  go_wp2_with fail
  refine (str10 F op text b1 b2 b3 b4 _ n _ hF).mono ?_
  rintro e w1 ⟨rfl, hb1⟩
  go_wp2_with fail
  go_ret
  exact ⟨rfl, hb1⟩

/-- The text as a string. -/
def textB (op text : ByteArray) : ByteArray := ⟨(tText op.data.toList text.data.toList).toArray⟩
theorem textB_list (op text : ByteArray) : (textB op text).data.toList = tText op.data.toList text.data.toList := by simp [textB]

theorem tText_length (op text : List UInt8) : (tText op text).length ≤ op.length + 10 * text.length + 3 := by
  have := FmtText.quote_length_le text
  simp [tText]; omega

/-- fmt's text told: the very bytes. -/
theorem told6 (F : Interp) (op text : ByteArray) (b1 b2 b3 b4 : Bool) (sa : Option Addr) (sn sc : Nat) (n : Int) (w : World) (hF : F.told.answers w.tape) (h1 : op.size ≤ 1048576) (h2 : text.size ≤ 1048576) :
    Calls Tryf.prog 6 #[.string op, .string text, .bool b1, .bool b2, .bool b3, .bool b4, .slice sa sn sc, .int .i64 n] w fun e w' => e = .returned (.string (textB op text)) ∧ Below w.heap.size w w' := by
  refine (str6 F.told op text b1 b2 b3 b4 sa sn sc n w hF).mono ?_
  rintro e w' ⟨rfl, hb⟩
  refine ⟨?_, hb⟩
  rw [Lib.size_eq] at h1 h2
  have hl := tText_length op.data.toList text.data.toList
  have ht := told_string F (t_text op.data.toList text.data.toList (by omega) (by omega)) (by omega)
  rw [← Kit.textOf_list] at ht
  congr 2
  rw [textB, ← ht, Lib.mk_data]
end Go.Proofs.Qxb6618925aFmt

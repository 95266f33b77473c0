import Derived.Test.Qxb6618565aFmtFacts
import Derived.WalkKit
import Derived.WalkSpells
import Derived.Outline
import Derived.Stop.Texts
import Derived.Stop.FmtTextWidths
import Derived.Stop.FmtTextKit
import Derived.Stop.JoinedTold
namespace Go.Proofs.Qxb6618565aFmt
open Go.RowKit Go.Extern.Stop Go.Stop Go.Extern Go.Kit
attribute [local go_sem] call11 guard11 fmtA fmtAr fmtB fmtBr op3_100 op9_115

/-- What fmt is asked at 'on line %d'. -/
def readA (n : Int) : List (List UInt8) := [[111, 110, 32, 108, 105, 110, 101, 32, 37, 100], shape3, digits 8 (n % 18446744073709551616).toNat]
/-- What fmt is asked at 'on line %d of %s'. -/
def readB (n : Int) (s : List UInt8) : List (List UInt8) := [[111, 110, 32, 108, 105, 110, 101, 32, 37, 100, 32, 111, 102, 32, 37, 115], shape3, digits 8 (n % 18446744073709551616).toNat, shape9, FmtStop.pack s]

set_option maxRecDepth 100000 in
set_option maxHeartbeats 400000 in
theorem onLineA (F : Interp) (n : Int) (s : ByteArray) (w : World) (hF : F.answers w.tape) :
    Calls Tryf.prog 10 #[.int .i64 n, .string s, .bool true] w fun e w' => e = .returned (.string (FmtStop.textOf (F "fmt.Sprintf" (readA n) 0))) ∧ w' = (w.alloc (.cells #[.iface 3 (.int .i64 n)] 20)).drew := by
  have hF' := answers_open hF
  go_enter Tryf.func10, Tryf.ntmps10
  go_wp2
  go_ret
  exact ⟨rfl, rfl⟩

set_option maxRecDepth 100000 in
set_option maxHeartbeats 400000 in
theorem onLineB (F : Interp) (n : Int) (s : ByteArray) (w : World) (hF : F.answers w.tape) :
    Calls Tryf.prog 10 #[.int .i64 n, .string s, .bool false] w fun e w' => e = .returned (.string (FmtStop.textOf (F "fmt.Sprintf" (readB n s.data.toList) 0))) ∧ w' = (w.alloc (.cells #[.iface 3 (.int .i64 n), .iface 9 (.string s)] 20)).drew := by
  have hF' := answers_open hF
  go_enter Tryf.func10, Tryf.ntmps10
  go_wp2
  go_ret
  exact ⟨rfl, rfl⟩

/-- 'on line ' -/
def preB : List UInt8 := [111, 110, 32, 108, 105, 110, 101, 32]
/-- ' of ' -/
def ofB : List UInt8 := [32, 111, 102, 32]
def textA (n : Int) : List UInt8 := preB ++ Lib.itoa n
def textB (n : Int) (s : List UInt8) : List UInt8 := preB ++ Lib.itoa n ++ ofB ++ s

theorem parseA : (FmtText.parse [111, 110, 32, 108, 105, 110, 101, 32, 37, 100]).map FmtText.glue = some [.lit [111, 110, 32, 108, 105, 110, 101, 32], .verb {} 100] := by rfl
theorem parseB : (FmtText.parse [111, 110, 32, 108, 105, 110, 101, 32, 37, 100, 32, 111, 102, 32, 37, 115]).map FmtText.glue = some [.lit [111, 110, 32, 108, 105, 110, 101, 32], .verb {} 100, .lit [32, 111, 102, 32], .verb {} 115] := by rfl

theorem toldA (n : Int) (hw : (Lit.int .i64 n).wf = true) : FmtText.text "fmt.Sprintf" (readA n) = some (textA n) := by
  have hi := FmtText.operand_int_at (sh := shape3) (k := .i64) rfl rfl n hw
  rw [readA, FmtText.text_sprintf_glued parseA (FmtText.operands_cons hi FmtText.operands_nil)]
  simp [FmtText.render, FmtText.printArg_d _ _ hw, textA, preB]

theorem toldB (n : Int) (s : List UInt8) (hs : s.length < 2 ^ 64) (hw : (Lit.int .i64 n).wf = true) : FmtText.text "fmt.Sprintf" (readB n s) = some (textB n s) := by
  have hi := FmtText.operand_int_at (sh := shape3) (k := .i64) rfl rfl n hw
  have hn := FmtText.operand_str_at (sh := shape9) rfl rfl s hs
  rw [readB, FmtText.text_sprintf_glued parseB (FmtText.operands_cons hi (FmtText.operands_cons hn FmtText.operands_nil))]
  simp [FmtText.render, FmtText.printArg_d _ _ hw, FmtText.printArg_s_str, textB, preB, ofB]

def LineEnd (w : World) (t : List UInt8) (e : Ending) (w' : World) : Prop := e = .returned (.string ⟨t.toArray⟩) ∧ Below w.heap.size w w'

theorem lineA (F : Interp) (n : Int) (s : ByteArray) (w : World) (hF : F.told.answers w.tape) (hw : (Lit.int .i64 n).wf = true) :
    Calls Tryf.prog 10 #[.int .i64 n, .string s, .bool true] w fun e w' => LineEnd w (textA n) e w' := by
  refine (onLineA F.told n s w hF).mono ?_
  rintro e w' ⟨rfl, rfl⟩
  have hl := FmtText.itoa_length_le hw
  have ht := told_string F (toldA n hw) (by simp [textA, preB]; omega)
  refine ⟨?_, ((Below.refl _ _).alloc (Nat.le_refl _) _).drew⟩
  rw [← ht, ← textOf_list, Array.toArray_toList]

theorem lineB (F : Interp) (n : Int) (s : ByteArray) (w : World) (hF : F.told.answers w.tape) (hw : (Lit.int .i64 n).wf = true) (hs : s.size ≤ 1048576) :
    Calls Tryf.prog 10 #[.int .i64 n, .string s, .bool false] w fun e w' => LineEnd w (textB n s.data.toList) e w' := by
  refine (onLineB F.told n s w hF).mono ?_
  rintro e w' ⟨rfl, rfl⟩
  have hl := FmtText.itoa_length_le hw
  have hs' : s.data.toList.length ≤ 1048576 := by simpa using hs
  have ht := told_string F (toldB n s.data.toList (by omega) hw) (by simp only [textB, preB, ofB, List.length_append, List.length_cons, List.length_nil]; omega)
  refine ⟨?_, ((Below.refl _ _).alloc (Nat.le_refl _) _).drew⟩
  rw [← ht, ← textOf_list, Array.toArray_toList]
end Go.Proofs.Qxb6618565aFmt

/- fmt.Sprintf at the formats of the literal's String and GoString; what a quoted string reads as. Conditions: fmt's text is told by the model's FmtText; the dump is cut with -reflectrows -leanrows. -/
import Derived.Test.YtiofodmlgneieaaGreatFmtRows
import Derived.Stop.CallBack
import Derived.Stop.IfaceNil
import Derived.Stop.Told
import Derived.Stop.Texts
import Derived.Stop.FmtTextKit
import Derived.Stop.FmtTextVerbs
import Derived.Stop.FmtQuoteTie
import Derived.WalkKit
import Derived.WalkSpells
import Derived.Outline
import Derived.Handy
namespace Go.Proofs.YtiofodmlgneieaaGreatFmt
open Go.RowKit Go.Extern.Stop Go.Stop Go.Extern Go.Kit
@[go_sem] theorem callSp (args : Array Value) (w : World) : (callFunc 28 args).run Tryz.prog w = (FmtCalls.sprintf #[9, 192] #[9] args).run Tryz.prog w :=
  run_callFunc_next Tryz.func28 (by kernel_rfl) (by kernel_rfl) (by kernel_rfl) args w
@[go_sem] theorem guardOk (name : String) (w : World) : (FmtStop.guard name).run Tryz.prog w = .ok () w := by kernel_rfl
theorem nextTurns : Extern.next FmtCalls.turnsRow = some (FmtCalls.begun #[] #[]) := by kernel_rfl
-- "%q", 1 operand
@[go_sem] theorem fmtq : FmtStop.printed? ⟨#[37, 113]⟩ 1 = some [(0, 113, false)] := by kernel_rfl
@[go_sem] theorem fmtqr (w : World) : (FmtDoors.printed ⟨#[37, 113]⟩ 1).run Tryz.prog w = .ok [(0, 113, false)] w := by kernel_rfl
def shapeS : List UInt8 := [12, 6, 0, 0, 0, 0, 0, 0, 0, 115, 116, 114, 105, 110, 103]
@[go_sem] theorem actS (name : String) (x : Value) (w : World) : (FmtCalls.act name false 113 false (.iface 9 x)).run Tryz.prog w = .ok (.closed false) w := by kernel_rfl
@[go_sem] theorem opS (name : String) (x : ByteArray) (w : World) : (FmtStop.operand name false 113 false (.iface 9 (.string x))).run Tryz.prog w = .ok (shapeS, FmtStop.pack x.data.toList) w := by kernel_rfl
def reading1 (s : List UInt8) : List (List UInt8) := [[37, 113], shapeS, FmtStop.pack s]
theorem parse1 : (FmtText.parse [37, 113]).map FmtText.glue = some [.verb {} 113] := by rfl
theorem text1 (s : List UInt8) (hs : s.length < 2 ^ 64) : FmtText.text "fmt.Sprintf" (reading1 s) = some (FmtText.quote false s) := by
  rw [reading1, FmtText.text_sprintf_glued parse1 (FmtText.operands_cons (FmtText.operand_str_at (sh := shapeS) rfl rfl s hs) FmtText.operands_nil)]
  simp [FmtText.render, FmtText.printArg_q_str]
/-- What '%q' gives. -/
def quoteTxt (s : ByteArray) : ByteArray := ⟨(FmtText.quote false s.data.toList).toArray⟩
theorem quoteTxt_size (s : ByteArray) : (quoteTxt s).size ≤ 10 * s.size + 2 := FmtText.quote_length_le s.data.toList
theorem told1 (F : Interp) (s : ByteArray) (hs : s.size ≤ 4194304) : FmtStop.textOf (F.told "fmt.Sprintf" (reading1 s.data.toList) 0) = quoteTxt s := by
  have hl : s.data.toList.length = s.size := rfl
  have hq := FmtText.quote_length_le s.data.toList
  have h := told_string F (text1 s.data.toList (by rw [hl]; omega)) (by omega)
  rw [← textOf_list] at h
  exact ByteArray.ext (by rw [quoteTxt, ← h])
/-- The row that fmt's stop goes on by, at the format "%q" and one string. -/
theorem rows_q (F : Interp) (s : ByteArray) (b : Nat) (w : World) (hF : F.told.answers w.tape) (hs : s.size ≤ 4194304) (hc : w.cell? ⟨b, 0, none⟩ = some (.iface 9 (.string s))) {R : Value → World → Prop}
    (h : R (.string (quoteTxt s)) w.drew) :
    Rows Tryz.prog FmtCalls.turnsRow (FmtCalls.save 0 0 (.slice (some ⟨b, 0, none⟩) 1 1) ⟨#[37, 113]⟩ [] [(0, 113, false)]) w R := by
  have hF' := answers_open hF
  refine rows_value nextTurns (v := .string (quoteTxt s)) (w' := w.drew) ?_ h
  rw [← told1 F s hs]
  go_simp
  first | done | exact ⟨rfl, rfl⟩ | rfl
end Go.Proofs.YtiofodmlgneieaaGreatFmt

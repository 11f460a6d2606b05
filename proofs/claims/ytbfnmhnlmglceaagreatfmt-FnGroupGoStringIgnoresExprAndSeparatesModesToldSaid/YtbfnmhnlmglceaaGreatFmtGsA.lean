/- What fmt.Sprintf over its calling stop gives at the format of (*group).GoString, and the contracts of GoString and of the functions that the laws call. Conditions: fmt's text is told by the model's FmtText; the dump is cut with -reflectrows -leanrows. -/
import Derived.Test.YtbfnmhnlmglceaaGreatFmtRows
import Derived.Stop.CallBack
import Derived.Stop.IfaceNil
import Derived.Stop.Told
import Derived.Stop.Texts
import Derived.Stop.FmtTextKit
import Derived.Stop.FmtTextVerbs
import Derived.WalkKit
import Derived.WalkSpells
import Derived.Outline
import Derived.Handy
namespace Go.Proofs.YtbfnmhnlmglceaaGreatFmt
open Go.RowKit Go.Extern.Stop Go.Stop Go.Extern Go.Kit

@[go_sem] theorem call13 (args : Array Value) (w : World) : (callFunc 13 args).run Tryz.prog w = (FmtCalls.sprintf #[9, 184] #[9] args).run Tryz.prog w :=
  run_callFunc_next Tryz.func13 (by kernel_rfl) (by kernel_rfl) (by kernel_rfl) args w
@[go_sem] theorem guardOk (name : String) (w : World) : (FmtStop.guard name).run Tryz.prog w = .ok () w := by kernel_rfl
theorem nextTurns : Extern.next FmtCalls.turnsRow = some (FmtCalls.begun #[] #[]) := by kernel_rfl
theorem nextReturned : Extern.next FmtCalls.returnedRow = some (FmtCalls.returned #[] #[]) := by kernel_rfl
@[go_sem] theorem fmt1 : FmtStop.printed? ⟨#[103, 114, 111, 117, 112, 123, 37, 115, 125]⟩ 1 = some [(0, 115, false)] := by kernel_rfl
@[go_sem] theorem fmt1r (w : World) : (FmtDoors.printed ⟨#[103, 114, 111, 117, 112, 123, 37, 115, 125]⟩ 1).run Tryz.prog w = .ok [(0, 115, false)] w := by kernel_rfl
@[go_sem] theorem act47 (name : String) (x : Value) (w : World) : (FmtCalls.act name false 115 false (.iface 47 x)).run Tryz.prog w = .ok (.call false) w := by kernel_rfl
@[go_sem] theorem isString47 (w : World) : (FmtDoors.textMethod 47 "String").run Tryz.prog w = .ok true w := by kernel_rfl
theorem invoke47 (x : Value) (w : World) : (invoke (.fn (.method "String") #[]) #[.iface 47 x]).run Tryz.prog w = .ok (.enter 14 #[x]) w := by kernel_rfl
@[go_sem] theorem str47 (w : World) : (typeStr 47).run Tryz.prog w = .ok "participle.groupMatchMode" w := by kernel_rfl

/-- the text of a mode -/
def modeText : Nat → List UInt8
  | 0 => [110]
  | 1 => [110, 63]
  | 2 => [110, 42]
  | 3 => [110, 43]
  | _ => [110, 33]
theorem mode0 (w : World) : Calls Tryz.prog 14 #[.int .i64 0] w fun e w' => e = .returned (.string ⟨#[110]⟩) ∧ w = w' := by
  go_enter Tryz.func14, Tryz.ntmps14
  go_wp2
  go_ret
  exact ⟨rfl, rfl⟩
theorem mode1 (w : World) : Calls Tryz.prog 14 #[.int .i64 1] w fun e w' => e = .returned (.string ⟨#[110, 63]⟩) ∧ w = w' := by
  go_enter Tryz.func14, Tryz.ntmps14
  go_wp2
  go_ret
  exact ⟨rfl, rfl⟩
theorem mode2 (w : World) : Calls Tryz.prog 14 #[.int .i64 2] w fun e w' => e = .returned (.string ⟨#[110, 42]⟩) ∧ w = w' := by
  go_enter Tryz.func14, Tryz.ntmps14
  go_wp2
  go_ret
  exact ⟨rfl, rfl⟩
theorem mode3 (w : World) : Calls Tryz.prog 14 #[.int .i64 3] w fun e w' => e = .returned (.string ⟨#[110, 43]⟩) ∧ w = w' := by
  go_enter Tryz.func14, Tryz.ntmps14
  go_wp2
  go_ret
  exact ⟨rfl, rfl⟩
theorem mode4 (w : World) : Calls Tryz.prog 14 #[.int .i64 4] w fun e w' => e = .returned (.string ⟨#[110, 33]⟩) ∧ w = w' := by
  go_enter Tryz.func14, Tryz.ntmps14
  go_wp2
  go_ret
  exact ⟨rfl, rfl⟩
theorem mode_any (m : Nat) (hm : m ≤ 4) (w : World) : Calls Tryz.prog 14 #[.int .i64 m] w fun e w' => e = .returned (.string ⟨(modeText m).toArray⟩) ∧ w = w' := by
  match m, hm with
  | 0, _ => exact mode0 w
  | 1, _ => exact mode1 w
  | 2, _ => exact mode2 w
  | 3, _ => exact mode3 w
  | 4, _ => exact mode4 w

/-- what fmt is asked -/
def reading (m : Nat) : List (List UInt8) :=
  [[103, 114, 111, 117, 112, 123, 37, 115, 125], 20 :: 0 :: FmtStop.pack "participle.groupMatchMode".toByteArray.data.toList, modeText m]
/-- the text that GoString gives -/
def goText (m : Nat) : List UInt8 := [103, 114, 111, 117, 112, 123] ++ modeText m ++ [125]
theorem parse1 : (FmtText.parse [103, 114, 111, 117, 112, 123, 37, 115, 125]).map FmtText.glue = some [.lit [103, 114, 111, 117, 112, 123], .verb {} 115, .lit [125]] := by rfl
theorem text1 (m : Nat) : FmtText.text "fmt.Sprintf" (reading m) = some (goText m) := by
  have hl : FmtText.unpack (FmtStop.pack "participle.groupMatchMode".toByteArray.data.toList) = some "participle.groupMatchMode".toByteArray.data.toList := FmtText.unpack_pack _ (by decide)
  have lv : ∀ s : List UInt8, FmtText.operand (20 :: 0 :: FmtStop.pack "participle.groupMatchMode".toByteArray.data.toList) s = some (.said "participle.groupMatchMode".toByteArray.data.toList false false s) := fun s => FmtText.operand_stringer hl false s
  rw [reading, FmtText.text_sprintf_glued parse1 (FmtText.operands_cons (lv _) FmtText.operands_nil)]
  simp [FmtText.render, FmtText.printArg_s_said, goText]
theorem modeText_len (m : Nat) : (modeText m).length ≤ 2 := by
  unfold modeText
  split <;> simp
theorem told1 (F : Interp) (m : Nat) : FmtStop.textOf (F.told "fmt.Sprintf" (reading m) 0) = ⟨(goText m).toArray⟩ := by
  have h := told_string F (text1 m) (by have := modeText_len m; simp [goText]; omega)
  rw [← textOf_list] at h
  rw [← h]
end Go.Proofs.YtbfnmhnlmglceaaGreatFmt

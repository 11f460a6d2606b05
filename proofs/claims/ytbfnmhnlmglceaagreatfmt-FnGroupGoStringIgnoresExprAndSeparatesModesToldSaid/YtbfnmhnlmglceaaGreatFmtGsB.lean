/- (*group).GoString hands back fmt's text at her reading, for every F. Conditions: the dump is cut with -reflectrows -leanrows. -/
import Derived.Test.YtbfnmhnlmglceaaGreatFmtGsA
namespace Go.Proofs.YtbfnmhnlmglceaaGreatFmt
open Go.RowKit Go.Extern.Stop Go.Stop Go.Extern Go.Kit
set_option maxRecDepth 100000 in
set_option maxHeartbeats 1000000 in
theorem goString (F : Interp) (m : Nat) (hm : m ≤ 4) (b : Nat) (w : World) (hF : F.answers w.tape) (h1 : w.cell? ⟨b, 1, none⟩ = some (.int .i64 m)) :
    Calls Tryz.prog 11 #[.pointer (some ⟨b, 0, none⟩)] w fun e w' => e = .returned (.string (FmtStop.textOf (F "fmt.Sprintf" (reading m) 0))) ∧ Below w.heap.size w w' := by
  have hF' := answers_open hF
  go_enter Tryz.func11, Tryz.ntmps11
  go_wp2
  apply rows_call nextTurns
  case hr =>
    go_simp
    exact ⟨⟨rfl, rfl, rfl⟩, rfl⟩
  case hi => exact invoke47 _ _
  case hc =>
    refine (mode_any m hm _).mono fun e w₃ ⟨he, hx⟩ => ?_
    subst he; subst hx
    apply rows_value nextReturned
    case hr =>
      go_simp
      exact ⟨rfl, rfl⟩
    case h =>
      go_wp2
      go_ret
      exact ⟨rfl, (((Below.refl _ _).alloc (Nat.le_refl _) _).drew)⟩
end Go.Proofs.YtbfnmhnlmglceaaGreatFmt

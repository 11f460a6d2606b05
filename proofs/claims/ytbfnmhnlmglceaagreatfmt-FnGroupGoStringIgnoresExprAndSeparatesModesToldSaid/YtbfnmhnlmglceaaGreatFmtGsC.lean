/- The laws' own callees: the two thin builders and the table of modes. Conditions: fmt's text is told by the model's FmtText; the dump is cut with -reflectrows -leanrows. -/
import Derived.Test.YtbfnmhnlmglceaaGreatFmtGsB
import Derived.Lib.Hide
namespace Go.Proofs.YtbfnmhnlmglceaaGreatFmt
open Go.RowKit Go.Extern.Stop Go.Stop Go.Extern Go.Kit
/-- the text of GoString, as a value -/
def gs (m : Nat) : ByteArray := ⟨(goText m).toArray⟩
theorem gs_ne (a b : Nat) (ha : a ≤ 4) (hb : b ≤ 4) (h : a ≠ b) : (gs a == gs b) = false := by
  have : ∀ a b : Fin 5, a ≠ b → (gs a == gs b) = false := by decide
  exact this ⟨a, by omega⟩ ⟨b, by omega⟩ (by simpa [Fin.ext_iff] using h)
theorem goGs (F : Interp) (m : Nat) (hm : m ≤ 4) (b : Nat) (w : World) (hF : F.told.answers w.tape) (h1 : w.cell? ⟨b, 1, none⟩ = some (.int .i64 m)) :
    Calls Tryz.prog 11 #[.pointer (some ⟨b, 0, none⟩)] w fun e w' => e = .returned (.string (gs m)) ∧ Below w.heap.size w w' :=
  (goString F.told m hm b w hF h1).mono fun _ _ ⟨h, k⟩ => ⟨by rw [h, told1]; rfl, k⟩
set_option maxRecDepth 100000 in
set_option maxHeartbeats 1000000 in
theorem zz6 (F : Interp) (m : Nat) (hm : m ≤ 4) (s : ByteArray) (w : World) (hF : F.told.answers w.tape) :
    Calls Tryz.prog 6 #[.int .i64 m, .string s] w fun e w' => e = .returned (.string (gs m)) ∧ Below w.heap.size w w' := by
  have HF := Lib.hid hF
  clear hF
  go_enter Tryz.func6, Tryz.ntmps6
  go_wp2_with fail
  refine (goGs F m hm _ _ (by exact HF.out) (by go_simp)).mono ?_
  rintro e w' ⟨rfl, hb⟩
  have HB := Lib.hid hb
  clear hb
  go_wp2_with fail
  go_ret
  exact ⟨rfl, (((Below.refl _ _).alloc (Nat.le_refl _) _).alloc (by simp) _).trans (HB.out.mono (by simp; omega))⟩
set_option maxRecDepth 100000 in
theorem zz9 (s : ByteArray) (b : Bool) (w : World) :
    Calls Tryz.prog 9 #[.string s, .bool b] w fun e w' => e = .returned (.string ⟨#[108, 111, 111, 107, 97, 104, 101, 97, 100, 71, 114, 111, 117, 112, 123, 125]⟩) ∧ Below w.heap.size w w' := by
  go_enter Tryz.func9, Tryz.ntmps9
  go_wp2
  go_ret
  refine ⟨rfl, ?_⟩
  go_grown
theorem zz7_0 (w : World) : Calls Tryz.prog 7 #[.int .i64 0] w fun e w' => e = .returned (.string (gs 0)) ∧ w = w' := by
  go_enter Tryz.func7, Tryz.ntmps7
  go_wp2
  go_ret
  exact ⟨rfl, rfl⟩
theorem zz7_1 (w : World) : Calls Tryz.prog 7 #[.int .i64 1] w fun e w' => e = .returned (.string (gs 1)) ∧ w = w' := by
  go_enter Tryz.func7, Tryz.ntmps7
  go_wp2
  go_ret
  exact ⟨rfl, rfl⟩
theorem zz7_2 (w : World) : Calls Tryz.prog 7 #[.int .i64 2] w fun e w' => e = .returned (.string (gs 2)) ∧ w = w' := by
  go_enter Tryz.func7, Tryz.ntmps7
  go_wp2
  go_ret
  exact ⟨rfl, rfl⟩
theorem zz7_3 (w : World) : Calls Tryz.prog 7 #[.int .i64 3] w fun e w' => e = .returned (.string (gs 3)) ∧ w = w' := by
  go_enter Tryz.func7, Tryz.ntmps7
  go_wp2
  go_ret
  exact ⟨rfl, rfl⟩
theorem zz7_4 (w : World) : Calls Tryz.prog 7 #[.int .i64 4] w fun e w' => e = .returned (.string (gs 4)) ∧ w = w' := by
  go_enter Tryz.func7, Tryz.ntmps7
  go_wp2
  go_ret
  exact ⟨rfl, rfl⟩
theorem zzMode (m : Nat) (hm : m ≤ 4) (w : World) : Calls Tryz.prog 7 #[.int .i64 m] w fun e w' => e = .returned (.string (gs m)) ∧ w = w' := by
  match m, hm with
  | 0, _ => exact zz7_0 w
  | 1, _ => exact zz7_1 w
  | 2, _ => exact zz7_2 w
  | 3, _ => exact zz7_3 w
  | 4, _ => exact zz7_4 w
end Go.Proofs.YtbfnmhnlmglceaaGreatFmt

/- n025_45.FnLiteralGoStringAgreesWithString: the walk. Conditions: fmt's text is told by the model's FmtText; the dump is cut with -reflectrows -leanrows. -/
import Derived.Test.YtiofodmlgneieaaGreatFmtL3
namespace Go.Proofs.YtiofodmlgneieaaGreatFmt
open Go.RowKit Go.Extern.Stop Go.Stop Go.Extern Go.Kit
theorem go_cats {a b : ByteArray} (ha : a.size ≤ 20000000) (hb : b.size ≤ 20000000) :
    ¬ ((⟨#[108, 105, 116, 101, 114, 97, 108, 123]⟩ : ByteArray).size + a.size > 9223372036854775807) ∧ ¬ ((⟨#[108, 105, 116, 101, 114, 97, 108, 123]⟩ ++ a : ByteArray).size + (⟨#[44, 32]⟩ : ByteArray).size > 9223372036854775807) ∧
    ¬ ((⟨#[108, 105, 116, 101, 114, 97, 108, 123]⟩ ++ a ++ ⟨#[44, 32]⟩ : ByteArray).size + b.size > 9223372036854775807) ∧ ¬ ((⟨#[108, 105, 116, 101, 114, 97, 108, 123]⟩ ++ a ++ ⟨#[44, 32]⟩ ++ b : ByteArray).size + (⟨#[125]⟩ : ByteArray).size > 9223372036854775807) := by
  have z1 : (⟨#[108, 105, 116, 101, 114, 97, 108, 123]⟩ : ByteArray).size = 8 := rfl
  have z2 : (⟨#[44, 32]⟩ : ByteArray).size = 2 := rfl
  have z3 : (⟨#[125]⟩ : ByteArray).size = 1 := rfl
  simp only [ByteArray.size_append]
  omega
set_option maxHeartbeats 1000000 in
set_option maxRecDepth 100000 in
theorem walkagree (F : Interp) (w : World) (s : ByteArray) (t : Int) (tt : ByteArray) (hF : F.told.answers w.tape) (hs : s.size ≤ 9223372036854775807) (ht : tt.size ≤ 9223372036854775807) :
    Calls Tryz.prog 3 #[.string s, .int .i64 t, .string tt] w fun e w' => e = .returned (.bool true) ∧ Below w.heap.size w w' := by
  have HF := Lib.hid hF
  clear hF
  go_enter Tryz.func3, Tryz.ntmps3
  go_wp2_with fail
  refine (zz_FnLiteralGoStringAgreesWithString s t tt w hs ht).mono ?_
  rintro e _ ⟨hz, rfl⟩
  rcases hz with rfl | ⟨rfl, h1, h2⟩
  · go_wp2_with fail
    go_ret
    exact ⟨rfl, Below.refl _ _⟩
  by_cases hA : (65536 : Int) < (s.size : Int)
  · go_wp2_with fail
    go_ret
    exact ⟨rfl, Below.refl _ _⟩
  by_cases hB : (65536 : Int) < (tt.size : Int)
  · go_wp2_with fail
    go_ret
    exact ⟨rfl, Below.refl _ _⟩
  obtain ⟨k1, k2, k3, k4⟩ := go_cats (a := quoteTxt s) (b := quoteTxt tt) (by have := quoteTxt_size s; omega) (by have := quoteTxt_size tt; omega)
  go_wp2_with fail
  refine (golit F w s t tt HF.out h1 h2).mono ?_
  rintro e w1 ⟨rfl, hb1⟩
  have HB1 := Lib.hid hb1
  have HF1 : Hid (F.told.answers w1.tape) := by
    show F.told.answers w1.tape
    rw [hb1.tape]
    exact HF.out
  clear hb1
  have eg : goTxt s tt = ⟨#[108, 105, 116, 101, 114, 97, 108, 123]⟩ ++ quoteTxt s ++ ⟨#[44, 32]⟩ ++ quoteTxt tt ++ ⟨#[125]⟩ := rfl
  rw [eg]
  clear eg
  go_wp2_with fail
  refine (litstr F w1 s t tt HF1.out h1).mono ?_
  rintro e w2 ⟨rfl, hb2⟩
  have HB2 : Hid (Below w.heap.size w w2) := HB1.out.trans (hb2.mono HB1.out.size)
  have HF2 : Hid (F.told.answers w2.tape) := by
    show F.told.answers w2.tape
    rw [hb2.tape]
    exact HF1.out
  clear hb2
  go_wp2_with fail
  refine (litstr F w2 tt 0 ⟨#[]⟩ HF2.out h2).mono ?_
  rintro e w3 ⟨rfl, hb3⟩
  have HB3 : Hid (Below w.heap.size w w3) := HB2.out.trans (hb3.mono HB2.out.size)
  clear hb3
  go_wp2_with fail
  go_ret
  exact ⟨rfl, HB3.out⟩
end Go.Proofs.YtiofodmlgneieaaGreatFmt

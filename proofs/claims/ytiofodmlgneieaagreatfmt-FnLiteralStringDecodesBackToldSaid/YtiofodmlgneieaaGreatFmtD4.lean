/- n025_45.FnLiteralStringDecodesBack: the walk. Conditions: fmt's text is told by the model's FmtText; the dump is cut with -reflectrows -leanrows. -/
import Derived.Test.YtiofodmlgneieaaGreatFmtD3
import Derived.Test.YtiofodmlgneieaaGreatFmtL3
namespace Go.Proofs.YtiofodmlgneieaaGreatFmt
open Go.RowKit Go.Extern.Stop Go.Stop Go.Extern Go.Kit
set_option maxHeartbeats 1000000 in
set_option maxRecDepth 100000 in
theorem walkdecodes (F : Interp) (w : World) (s : ByteArray) (t : Int) (tt : ByteArray) (hF : F.told.answers w.tape) (hs : s.size ≤ 9223372036854775807) (ht : tt.size ≤ 9223372036854775807) :
    Calls Tryz.prog 4 #[.string s, .int .i64 t, .string tt] w fun e w' => e = .returned (.bool true) ∧ Below w.heap.size w w' := by
  have HF := Lib.hid hF
  clear hF
  go_enter Tryz.func4, Tryz.ntmps4
  go_wp2_with fail
  refine (zz_FnLiteralStringDecodesBack s t tt w hs ht).mono ?_
  rintro e _ ⟨hz, rfl⟩
  rcases hz with rfl | ⟨rfl, h1, h2⟩
  · go_wp2_with fail
    go_ret
    exact ⟨rfl, Below.refl _ _⟩
  by_cases hA : (65536 : Int) < (s.size : Int)
  · go_wp2_with fail
    go_ret
    exact ⟨rfl, Below.refl _ _⟩
  by_cases hB : (65536 : Int) < (tt.size : Int)
  · go_wp2_with fail
    go_ret
    exact ⟨rfl, Below.refl _ _⟩
  go_wp2_with fail
  refine (litstr F w s t tt HF.out h1).mono ?_
  rintro e w1 ⟨rfl, hb1⟩
  have HB1 := Lib.hid hb1
  clear hb1
  go_wp2_with fail
  refine (decode_any s w1 h1).mono ?_
  rintro e w2 ⟨rfl, hb2⟩
  have HB2 : Hid (Below w.heap.size w w2) := HB1.out.trans (hb2.mono HB1.out.size)
  clear hb2
  go_wp2_with fail
  go_ret
  exact ⟨rfl, HB2.out⟩
end Go.Proofs.YtiofodmlgneieaaGreatFmt

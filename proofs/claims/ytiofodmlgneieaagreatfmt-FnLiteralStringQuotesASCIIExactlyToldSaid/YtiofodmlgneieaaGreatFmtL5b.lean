/- n025_45.FnLiteralStringQuotesASCIIExactly: the walk. Conditions: fmt's text is told by the model's FmtText; the dump is cut with -reflectrows -leanrows. -/
import Derived.Test.YtiofodmlgneieaaGreatFmtL5
namespace Go.Proofs.YtiofodmlgneieaaGreatFmt
open Go.RowKit Go.Extern.Stop Go.Stop Go.Extern Go.Kit
set_option maxHeartbeats 1000000 in
set_option maxRecDepth 100000 in
theorem walkquotes (F : Interp) (w : World) (s : ByteArray) (t : Int) (tt : ByteArray) (hF : F.told.answers w.tape) (hs : s.size ≤ 9223372036854775807) (ht : tt.size ≤ 9223372036854775807) :
    Calls Tryz.prog 7 #[.string s, .int .i64 t, .string tt] w fun e w' => e = .returned (.bool true) ∧ Below w.heap.size w w' := by
  have HF := Lib.hid hF
  clear hF
  go_enter Tryz.func7, Tryz.ntmps7
  go_wp2_with fail
  refine (zz_FnLiteralStringQuotesASCIIExactly s t tt w hs ht).mono ?_
  rintro e _ ⟨hz, rfl⟩
  rcases hz with rfl | ⟨rfl, h1, h2⟩
  · go_wp2_with fail
    go_ret
    exact ⟨rfl, Below.refl _ _⟩
  by_cases hA : (65536 : Int) < (s.size : Int)
  · go_wp2_with fail
    go_ret
    exact ⟨rfl, Below.refl _ _⟩
  by_cases hB : (65536 : Int) < (tt.size : Int)
  · go_wp2_with fail
    go_ret
    exact ⟨rfl, Below.refl _ _⟩
  go_wp2_with fail
  go_loop [7] (fun i => ∃ k : Nat, k ≤ s.size ∧ i = .int .i64 k ∧ Hid (AsciiTo s k)) (fun i => s.size - (intOf i).toNat)
  case atStart => exact ⟨0, Nat.zero_le _, rfl, fun j b hj _ => absurd hj (Nat.not_lt_zero j)⟩
  case round =>
    obtain ⟨k, hk, rfl, HC⟩ := hrel
    by_cases hkn : k < s.size
    · by_cases hbig : (128 : Int) ≤ ((s[k]'hkn).toNat : Int)
      · go_wp2_with fail
        go_ret
        exact ⟨rfl, Below.refl _ _⟩
      · have HK := Lib.hid (ascii_step HC.out hkn (by omega))
        go_wp2_with fail
        go_round
        case rel => exact ⟨k + 1, by omega, by go_num, HK.out⟩
        case measure => simp [intOf]; omega
    · have HA := Lib.hid (ascii_all HC.out (by omega))
      go_wp2_with fail
      refine (litstr F w s t tt HF.out h1).mono ?_
      rintro e w1 ⟨rfl, hb1⟩
      have HB1 := Lib.hid hb1
      clear hb1
      go_wp2_with fail
      refine (quoteascii s w1 h1 HA.out).mono ?_
      rintro e w2 ⟨rfl, hb2⟩
      have HB2 : Hid (Below w.heap.size w w2) := HB1.out.trans (hb2.mono HB1.out.size)
      clear hb2
      go_wp2_with fail
      go_ret
      exact ⟨rfl, HB2.out⟩
end Go.Proofs.YtiofodmlgneieaaGreatFmt

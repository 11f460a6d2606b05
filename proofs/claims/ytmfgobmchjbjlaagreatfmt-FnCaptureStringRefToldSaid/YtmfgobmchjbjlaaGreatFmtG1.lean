/- The law's test for ASCII: a yes means ASCII. The seat's flags: -reflectrows -leanrows (see REPORT.md, TRANSLATOR). -/
import Derived.Test.YtmfgobmchjbjlaaGreatFmtEg
import Derived.Test.YtmfgobmchjbjlaaGreatFmtEd
namespace Go.Proofs.YtmfgobmchjbjlaaGreatFmt
open Go.RowKit
set_option maxRecDepth 100000 in
theorem isascii_any (s : ByteArray) (w : World) (hs : s.size ≤ 4194304) : Calls Tryz.prog 12 #[.string s] w fun e w' => IdEnd s e ∧ w = w' := by
  go_enter Tryz.func12, Tryz.ntmps12
  go_wp2
  go_loop [3] (fun i => ∃ k : Nat, k ≤ s.size ∧ i = .int .i64 k ∧ Hid (AsciiTo s k)) (fun i => s.size - (intOf i).toNat)
  case atStart => exact ⟨0, Nat.zero_le _, rfl, fun j b hj _ => absurd hj (Nat.not_lt_zero j)⟩
  case round =>
    obtain ⟨k, hk, rfl, HC⟩ := hrel
    by_cases hkn : k < s.size
    · by_cases hbig : (128 : Int) ≤ ((s[k]'hkn).toNat : Int)
      · go_wp2
        go_ret
        exact ⟨Or.inl rfl, rfl⟩
      · have HK : Hid (((s[k]'hkn).toNat : Int) < 128) := (by omega : ((s[k]'hkn).toNat : Int) < 128)
        go_wp2
        go_round
        case rel => exact ⟨k + 1, by omega, by go_num, ascii_step HC.out hkn HK.out⟩
        case measure => simp [intOf]; omega
    · go_wp2
      go_ret
      exact ⟨Or.inr ⟨rfl, ascii_all HC.out (by omega)⟩, rfl⟩
theorem cat_lt {L : ByteArray} (h : L.size ≤ 1099511627776) : ¬ ((⟨#[60]⟩ : ByteArray).size + L.size > 9223372036854775807) := by
  have : (⟨#[60]⟩ : ByteArray).size = 1 := rfl
  omega
theorem cat_gt {L : ByteArray} (h : L.size ≤ 1099511627776) : ¬ (((⟨#[60]⟩ : ByteArray) ++ L).size + (⟨#[62]⟩ : ByteArray).size > 9223372036854775807) := by
  have : (⟨#[60]⟩ : ByteArray).size = 1 := rfl
  have : (⟨#[62]⟩ : ByteArray).size = 1 := rfl
  rw [ByteArray.size_append]; omega
theorem lowTxt_size (s : ByteArray) : (lowTxt s).size = s.size := by
  show (Lib.toLowerA s.data.toList).toArray.size = s.size
  rw [List.size_toArray, size_low]
theorem str_capture (w : World) (q : Option Addr) (txt : ByteArray) (hP : Pr w.heap.size w true (.iface 41 (.pointer q)) txt) (hsz : txt.size ≤ 1000000000000) :
    Calls Tryz.prog 15 #[.pointer q] w fun e w' => e = .returned (.string txt) ∧ Below w.heap.size w w' := by
  have HP := Lib.hid hP
  have HS := Lib.hid hsz
  clear hP hsz
  go_enter Tryz.func15, Tryz.ntmps15
  go_wp2_with fail
  refine (ebnf_capture q txt _ HP.out HS.out).mono ?_
  rintro e w2 ⟨rfl, hb⟩
  have HB := Lib.hid hb
  clear hb
  go_wp2_with fail
  go_ret
  exact ⟨rfl, HB.out⟩
theorem str_sequence (w : World) (q : Option Addr) (txt : ByteArray) (hP : Pr w.heap.size w true (.iface 45 (.pointer q)) txt) (hsz : txt.size ≤ 1000000000000) :
    Calls Tryz.prog 17 #[.pointer q] w fun e w' => e = .returned (.string txt) ∧ Below w.heap.size w w' := by
  have HP := Lib.hid hP
  have HS := Lib.hid hsz
  clear hP hsz
  go_enter Tryz.func17, Tryz.ntmps17
  go_wp2_with fail
  refine (ebnf_sequence q txt _ HP.out HS.out).mono ?_
  rintro e w2 ⟨rfl, hb⟩
  have HB := Lib.hid hb
  clear hb
  go_wp2_with fail
  go_ret
  exact ⟨rfl, HB.out⟩
end Go.Proofs.YtmfgobmchjbjlaaGreatFmt

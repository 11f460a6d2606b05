/- n025_45: reading hex digits back. The seat's flags: -reflectrows -leanrows (see REPORT.md, TRANSLATOR). -/
import Derived.Test.YtiofodmlgneieaaGreatFmtA0
import Derived.Test.YtiofodmlgneieaaGreatFmtQ2
namespace Go.Proofs.YtiofodmlgneieaaGreatFmt
open Go.RowKit Go.Extern
theorem hexval0 (w : World) : Calls Tryz.prog 30 #[.int .u8 48] w fun e w' => e = .returned (.int .i64 0) ∧ w = w' := by
  go_enter Tryz.func30, Tryz.ntmps30
  go_wp2
  go_ret
  exact ⟨rfl, rfl⟩
theorem hexval1 (w : World) : Calls Tryz.prog 30 #[.int .u8 49] w fun e w' => e = .returned (.int .i64 1) ∧ w = w' := by
  go_enter Tryz.func30, Tryz.ntmps30
  go_wp2
  go_ret
  exact ⟨rfl, rfl⟩
theorem hexval2 (w : World) : Calls Tryz.prog 30 #[.int .u8 50] w fun e w' => e = .returned (.int .i64 2) ∧ w = w' := by
  go_enter Tryz.func30, Tryz.ntmps30
  go_wp2
  go_ret
  exact ⟨rfl, rfl⟩
theorem hexval3 (w : World) : Calls Tryz.prog 30 #[.int .u8 51] w fun e w' => e = .returned (.int .i64 3) ∧ w = w' := by
  go_enter Tryz.func30, Tryz.ntmps30
  go_wp2
  go_ret
  exact ⟨rfl, rfl⟩
theorem hexval4 (w : World) : Calls Tryz.prog 30 #[.int .u8 52] w fun e w' => e = .returned (.int .i64 4) ∧ w = w' := by
  go_enter Tryz.func30, Tryz.ntmps30
  go_wp2
  go_ret
  exact ⟨rfl, rfl⟩
theorem hexval5 (w : World) : Calls Tryz.prog 30 #[.int .u8 53] w fun e w' => e = .returned (.int .i64 5) ∧ w = w' := by
  go_enter Tryz.func30, Tryz.ntmps30
  go_wp2
  go_ret
  exact ⟨rfl, rfl⟩
theorem hexval6 (w : World) : Calls Tryz.prog 30 #[.int .u8 54] w fun e w' => e = .returned (.int .i64 6) ∧ w = w' := by
  go_enter Tryz.func30, Tryz.ntmps30
  go_wp2
  go_ret
  exact ⟨rfl, rfl⟩
theorem hexval7 (w : World) : Calls Tryz.prog 30 #[.int .u8 55] w fun e w' => e = .returned (.int .i64 7) ∧ w = w' := by
  go_enter Tryz.func30, Tryz.ntmps30
  go_wp2
  go_ret
  exact ⟨rfl, rfl⟩
theorem hexval8 (w : World) : Calls Tryz.prog 30 #[.int .u8 56] w fun e w' => e = .returned (.int .i64 8) ∧ w = w' := by
  go_enter Tryz.func30, Tryz.ntmps30
  go_wp2
  go_ret
  exact ⟨rfl, rfl⟩
theorem hexval9 (w : World) : Calls Tryz.prog 30 #[.int .u8 57] w fun e w' => e = .returned (.int .i64 9) ∧ w = w' := by
  go_enter Tryz.func30, Tryz.ntmps30
  go_wp2
  go_ret
  exact ⟨rfl, rfl⟩
theorem hexval10 (w : World) : Calls Tryz.prog 30 #[.int .u8 97] w fun e w' => e = .returned (.int .i64 10) ∧ w = w' := by
  go_enter Tryz.func30, Tryz.ntmps30
  go_wp2
  go_ret
  exact ⟨rfl, rfl⟩
theorem hexval11 (w : World) : Calls Tryz.prog 30 #[.int .u8 98] w fun e w' => e = .returned (.int .i64 11) ∧ w = w' := by
  go_enter Tryz.func30, Tryz.ntmps30
  go_wp2
  go_ret
  exact ⟨rfl, rfl⟩
theorem hexval12 (w : World) : Calls Tryz.prog 30 #[.int .u8 99] w fun e w' => e = .returned (.int .i64 12) ∧ w = w' := by
  go_enter Tryz.func30, Tryz.ntmps30
  go_wp2
  go_ret
  exact ⟨rfl, rfl⟩
theorem hexval13 (w : World) : Calls Tryz.prog 30 #[.int .u8 100] w fun e w' => e = .returned (.int .i64 13) ∧ w = w' := by
  go_enter Tryz.func30, Tryz.ntmps30
  go_wp2
  go_ret
  exact ⟨rfl, rfl⟩
theorem hexval14 (w : World) : Calls Tryz.prog 30 #[.int .u8 101] w fun e w' => e = .returned (.int .i64 14) ∧ w = w' := by
  go_enter Tryz.func30, Tryz.ntmps30
  go_wp2
  go_ret
  exact ⟨rfl, rfl⟩
theorem hexval15 (w : World) : Calls Tryz.prog 30 #[.int .u8 102] w fun e w' => e = .returned (.int .i64 15) ∧ w = w' := by
  go_enter Tryz.func30, Tryz.ntmps30
  go_wp2
  go_ret
  exact ⟨rfl, rfl⟩
theorem hexval (d : Nat) (h : d < 16) (w : World) : Calls Tryz.prog 30 #[.int .u8 ((FmtText.digit false d).toNat : Int)] w fun e w' => e = .returned (.int .i64 (d : Int)) ∧ w = w' := by
  match d, h with
  | 0, _ => exact hexval0 w
  | 1, _ => exact hexval1 w
  | 2, _ => exact hexval2 w
  | 3, _ => exact hexval3 w
  | 4, _ => exact hexval4 w
  | 5, _ => exact hexval5 w
  | 6, _ => exact hexval6 w
  | 7, _ => exact hexval7 w
  | 8, _ => exact hexval8 w
  | 9, _ => exact hexval9 w
  | 10, _ => exact hexval10 w
  | 11, _ => exact hexval11 w
  | 12, _ => exact hexval12 w
  | 13, _ => exact hexval13 w
  | 14, _ => exact hexval14 w
  | 15, _ => exact hexval15 w
  | d + 16, h => exact absurd h (by omega)
set_option maxHeartbeats 1000000 in
set_option maxRecDepth 100000 in
theorem hexn (q : ByteArray) (i r k : Nat) (w : World) (hk : k ≤ 8) (hr : r < 16 ^ k) (hi : i + k ≤ q.size) (hq : q.size ≤ 1099511627776) (h : HexAt q i r k) :
    Calls Tryz.prog 25 #[.string q, .int .i64 (i : Int), .int .i64 (k : Int)] w fun e w' => e = .returned (.int .i64 (r : Int)) ∧ w = w' := by
  have H := Lib.hid h
  have hr2 : r < 4294967296 := Nat.lt_of_lt_of_le hr (Nat.le_trans (Nat.pow_le_pow_right (by decide) hk) (by decide))
  have HR := Lib.hid hr
  clear h hr
  go_enter Tryz.func25, Tryz.ntmps25
  go_wp2_with fail
  go_loop [7, 8] (fun v j => ∃ (m x : Nat), m ≤ k ∧ j = .int .i64 (m : Int) ∧ v = .int .i64 (x : Int) ∧ x ≤ r ∧ Hid (x = r / 16 ^ (k - m))) (fun _ j => k - (intOf j).toNat)
  case atStart => exact ⟨0, 0, Nat.zero_le _, rfl, rfl, Nat.zero_le _, by have h0 := HR.out; exact (Nat.div_eq_of_lt (by simpa using h0)).symm⟩
  case round =>
    obtain ⟨m, x, hm, rfl, rfl, hx, HX⟩ := hrel
    by_cases hmk : m < k
    · have hqm : i + m < q.size := by omega
      obtain ⟨D, hD⟩ : ∃ D, D = r / 16 ^ (k - 1 - m) % 16 := ⟨_, rfl⟩
      have hD16 : D < 16 := by rw [hD]; exact Nat.mod_lt _ (by decide)
      have hb : ((q[i + m]'hqm).toNat : Int) = ((FmtText.digit false D).toNat : Int) := by rw [H.out m hqm hmk, hD]
      have HD := Lib.hid hD
      clear hD
      go_wp2_with fail
      refine (hexval D hD16 _).mono ?_
      rintro e _ ⟨rfl, rfl⟩
      have HS : Hid (x * 16 + D = r / 16 ^ (k - (m + 1))) := by have h1 := hex_step r k m hmk; rw [← HX.out, ← HD.out] at h1; exact h1
      have hle : x * 16 + D ≤ r := by have h1 := HS.out; rw [h1]; exact Nat.div_le_self _ _
      clear hb
      go_wp2_with fail
      go_round
      case rel => exact ⟨m + 1, x * 16 + D, by omega, by go_num, by go_num, hle, HS.out⟩
      case measure => simp [intOf]; omega
    · obtain rfl : m = k := by omega
      have hxr : x = r := by have h1 := HX.out; simpa using h1
      subst hxr
      go_wp2_with fail
      go_ret
      exact ⟨rfl, rfl⟩
end Go.Proofs.YtiofodmlgneieaaGreatFmt

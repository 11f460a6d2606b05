/- n025_45: the law's own quoting of ASCII text is fmt's; FnLiteralStringQuotesASCIIExactly: the walk. Conditions: fmt's text is told by the model's FmtText; the dump is cut with -reflectrows -leanrows. -/
import Derived.Test.YtiofodmlgneieaaGreatFmtL3
import Derived.Test.YtiofodmlgneieaaGreatFmtL5a
import Derived.Test.YtiofodmlgneieaaGreatFmtBs
namespace Go.Proofs.YtiofodmlgneieaaGreatFmt
open Go.RowKit Go.Extern.Stop Go.Stop Go.Extern Go.Kit
theorem ctl_cases (n : Nat) (h : n < 128) (h1 : ¬ (32 ≤ n ∧ n ≤ 126)) : n = 7 ∨ n = 8 ∨ n = 12 ∨ n = 10 ∨ n = 13 ∨ n = 9 ∨ n = 11 ∨ n = 0 ∨ n = 1 ∨ n = 2 ∨ n = 3 ∨ n = 4 ∨ n = 5 ∨ n = 6 ∨ n = 14 ∨ n = 15 ∨ n = 16 ∨ n = 17 ∨ n = 18 ∨ n = 19 ∨ n = 20 ∨ n = 21 ∨ n = 22 ∨ n = 23 ∨ n = 24 ∨ n = 25 ∨ n = 26 ∨ n = 27 ∨ n = 28 ∨ n = 29 ∨ n = 30 ∨ n = 31 ∨ n = 127 := by omega
set_option maxHeartbeats 16000000 in
set_option maxRecDepth 100000 in
theorem quoteascii (s : ByteArray) (w : World) (hs : s.size ≤ 1048576) (ha : AsciiS s) :
    Calls Tryz.prog 21 #[.string s] w fun e w' => e = .returned (.string (quoteTxt s)) ∧ Below w.heap.size w w' := by
  have HA := Lib.hid ha
  clear ha
  go_enter Tryz.func21, Tryz.ntmps21
  go_wp2_with fail
  go_loopw [4, 5] (fun v i wr => ∃ k : Nat, k ≤ s.size ∧ i = .int .i64 k ∧ Hid (Buf w.heap.size w wr v (qBuf s k))) (fun _ i _ => s.size - (intOf i).toNat)
  case atStart => exact ⟨0, Nat.zero_le _, rfl, lit_buf w _ 1 [34] rfl rfl (by omega)⟩
  case round =>
    obtain ⟨k, hk, rfl, HB⟩ := hrel
    have hlk := qbuf_len HA.out k hk
    by_cases hkn : k < s.size
    · have h128 := ascii_at HA.out k hkn
      by_cases hraw : 32 ≤ (s[k]'hkn).toNat ∧ (s[k]'hkn).toNat ≤ 126
      · by_cases h34 : (s[k]'hkn).toNat = 34
        · have hc : ((s[k]'hkn).toNat : Int) = 34 := by omega
          have HC := Lib.hid (getD_eq hkn (n := 34) (by omega) hc)
          clear h128 hraw h34
          go_wp2_with (at_builtin; refine buf_add rfl _ _ rfl [92, 34] _ rfl 2 rfl rfl rfl HB.out (by omega) ?_)
          intro v1 w1 hb1
          have HB1 : Hid (Buf w.heap.size w w1 v1 (qBuf s (k + 1))) := by have h := hb1; rw [qbuf_step hkn (by rw [HC.out]; decide)] at h; exact h
          clear hb1
          go_wp2_with fail
          go_roundw
          case rel => exact ⟨k + 1, by omega, by go_num, HB1.out⟩
          case measure => simp [intOf]; omega
        by_cases h92 : (s[k]'hkn).toNat = 92
        · have hc : ((s[k]'hkn).toNat : Int) = 92 := by omega
          have HC := Lib.hid (getD_eq hkn (n := 92) (by omega) hc)
          clear h128 hraw h34 h92
          go_wp2_with (at_builtin; refine buf_add rfl _ _ rfl [92, 92] _ rfl 2 rfl rfl rfl HB.out (by omega) ?_)
          intro v1 w1 hb1
          have HB1 : Hid (Buf w.heap.size w w1 v1 (qBuf s (k + 1))) := by have h := hb1; rw [qbuf_step hkn (by rw [HC.out]; decide)] at h; exact h
          clear hb1
          go_wp2_with fail
          go_roundw
          case rel => exact ⟨k + 1, by omega, by go_num, HB1.out⟩
          case measure => simp [intOf]; omega
        have hl : (32 : Int) ≤ ((s[k]'hkn).toNat : Int) := by omega
        have hu : ((s[k]'hkn).toNat : Int) ≤ 126 := by omega
        have e34 : (((s[k]'hkn).toNat : Int) == 34) = false := by simp; omega
        have e92 : (((s[k]'hkn).toNat : Int) == 92) = false := by simp; omega
        obtain ⟨cb, hcb⟩ : ∃ cb : UInt8, cb = s.data.toList.getD k 0 := ⟨_, rfl⟩
        have HC : Hid (escByte (s.data.toList.getD k 0) = [cb]) := by rw [hcb, ← byte_at s k hkn]; exact escByte_raw _ hraw.1 hraw.2 h34 h92
        have HG : Hid ([Value.int .u8 ((s[k]'hkn).toNat : Int)] = cellsOf [cb]) := by rw [hcb, ← byte_at s k hkn]; exact rfl
        clear h128 hraw h34 h92 hcb
        go_wp2_with (at_builtin; refine buf_add rfl _ _ rfl [cb] _ HG.out 1 rfl rfl rfl HB.out (by omega) ?_)
        intro v1 w1 hb1
        have HB1 : Hid (Buf w.heap.size w w1 v1 (qBuf s (k + 1))) := by have h := hb1; rw [qbuf_step hkn HC.out] at h; exact h
        clear hb1
        go_wp2_with fail
        go_roundw
        case rel => exact ⟨k + 1, by omega, by go_num, HB1.out⟩
        case measure => simp [intOf]; omega
      rcases ctl_cases _ h128 hraw with hn | hn | hn | hn | hn | hn | hn | hn | hn | hn | hn | hn | hn | hn | hn | hn | hn | hn | hn | hn | hn | hn | hn | hn | hn | hn | hn | hn | hn | hn | hn | hn | hn
      · have hc : ((s[k]'hkn).toNat : Int) = 7 := by omega
        have HC := Lib.hid (getD_eq hkn (n := 7) (by omega) hc)
        clear h128 hraw hn
        go_wp2_with (at_builtin; refine buf_add rfl _ _ rfl [92, 97] _ rfl 2 rfl rfl rfl HB.out (by omega) ?_)
        intro v1 w1 hb1
        have HB1 : Hid (Buf w.heap.size w w1 v1 (qBuf s (k + 1))) := by have h := hb1; rw [qbuf_step hkn (by rw [HC.out]; decide)] at h; exact h
        clear hb1
        go_wp2_with fail
        go_roundw
        case rel => exact ⟨k + 1, by omega, by go_num, HB1.out⟩
        case measure => simp [intOf]; omega
      · have hc : ((s[k]'hkn).toNat : Int) = 8 := by omega
        have HC := Lib.hid (getD_eq hkn (n := 8) (by omega) hc)
        clear h128 hraw hn
        go_wp2_with (at_builtin; refine buf_add rfl _ _ rfl [92, 98] _ rfl 2 rfl rfl rfl HB.out (by omega) ?_)
        intro v1 w1 hb1
        have HB1 : Hid (Buf w.heap.size w w1 v1 (qBuf s (k + 1))) := by have h := hb1; rw [qbuf_step hkn (by rw [HC.out]; decide)] at h; exact h
        clear hb1
        go_wp2_with fail
        go_roundw
        case rel => exact ⟨k + 1, by omega, by go_num, HB1.out⟩
        case measure => simp [intOf]; omega
      · have hc : ((s[k]'hkn).toNat : Int) = 12 := by omega
        have HC := Lib.hid (getD_eq hkn (n := 12) (by omega) hc)
        clear h128 hraw hn
        go_wp2_with (at_builtin; refine buf_add rfl _ _ rfl [92, 102] _ rfl 2 rfl rfl rfl HB.out (by omega) ?_)
        intro v1 w1 hb1
        have HB1 : Hid (Buf w.heap.size w w1 v1 (qBuf s (k + 1))) := by have h := hb1; rw [qbuf_step hkn (by rw [HC.out]; decide)] at h; exact h
        clear hb1
        go_wp2_with fail
        go_roundw
        case rel => exact ⟨k + 1, by omega, by go_num, HB1.out⟩
        case measure => simp [intOf]; omega
      · have hc : ((s[k]'hkn).toNat : Int) = 10 := by omega
        have HC := Lib.hid (getD_eq hkn (n := 10) (by omega) hc)
        clear h128 hraw hn
        go_wp2_with (at_builtin; refine buf_add rfl _ _ rfl [92, 110] _ rfl 2 rfl rfl rfl HB.out (by omega) ?_)
        intro v1 w1 hb1
        have HB1 : Hid (Buf w.heap.size w w1 v1 (qBuf s (k + 1))) := by have h := hb1; rw [qbuf_step hkn (by rw [HC.out]; decide)] at h; exact h
        clear hb1
        go_wp2_with fail
        go_roundw
        case rel => exact ⟨k + 1, by omega, by go_num, HB1.out⟩
        case measure => simp [intOf]; omega
      · have hc : ((s[k]'hkn).toNat : Int) = 13 := by omega
        have HC := Lib.hid (getD_eq hkn (n := 13) (by omega) hc)
        clear h128 hraw hn
        go_wp2_with (at_builtin; refine buf_add rfl _ _ rfl [92, 114] _ rfl 2 rfl rfl rfl HB.out (by omega) ?_)
        intro v1 w1 hb1
        have HB1 : Hid (Buf w.heap.size w w1 v1 (qBuf s (k + 1))) := by have h := hb1; rw [qbuf_step hkn (by rw [HC.out]; decide)] at h; exact h
        clear hb1
        go_wp2_with fail
        go_roundw
        case rel => exact ⟨k + 1, by omega, by go_num, HB1.out⟩
        case measure => simp [intOf]; omega
      · have hc : ((s[k]'hkn).toNat : Int) = 9 := by omega
        have HC := Lib.hid (getD_eq hkn (n := 9) (by omega) hc)
        clear h128 hraw hn
        go_wp2_with (at_builtin; refine buf_add rfl _ _ rfl [92, 116] _ rfl 2 rfl rfl rfl HB.out (by omega) ?_)
        intro v1 w1 hb1
        have HB1 : Hid (Buf w.heap.size w w1 v1 (qBuf s (k + 1))) := by have h := hb1; rw [qbuf_step hkn (by rw [HC.out]; decide)] at h; exact h
        clear hb1
        go_wp2_with fail
        go_roundw
        case rel => exact ⟨k + 1, by omega, by go_num, HB1.out⟩
        case measure => simp [intOf]; omega
      · have hc : ((s[k]'hkn).toNat : Int) = 11 := by omega
        have HC := Lib.hid (getD_eq hkn (n := 11) (by omega) hc)
        clear h128 hraw hn
        go_wp2_with (at_builtin; refine buf_add rfl _ _ rfl [92, 118] _ rfl 2 rfl rfl rfl HB.out (by omega) ?_)
        intro v1 w1 hb1
        have HB1 : Hid (Buf w.heap.size w w1 v1 (qBuf s (k + 1))) := by have h := hb1; rw [qbuf_step hkn (by rw [HC.out]; decide)] at h; exact h
        clear hb1
        go_wp2_with fail
        go_roundw
        case rel => exact ⟨k + 1, by omega, by go_num, HB1.out⟩
        case measure => simp [intOf]; omega
      · have hc : ((s[k]'hkn).toNat : Int) = 0 := by omega
        have HC := Lib.hid (getD_eq hkn (n := 0) (by omega) hc)
        have a1 : bits .and .u8 0 15 = 0 := by decide
        have e0 : ∀ h, ((⟨#[48, 49, 50, 51, 52, 53, 54, 55, 56, 57, 97, 98, 99, 100, 101, 102]⟩ : ByteArray)[0]'h).toNat = 48 := fun _ => rfl
        clear h128 hraw hn
        go_wp2_with fail
        go_region_law (refine buf_step rfl _ _ rfl [92, 120, 48, 48] 4 rfl wr.heap.size (by simp [Act.eval]) (by simp [Act.eval]) (cells_lit wr _ _ rfl) (HB.out.lit _) (by omega) ?_; intro v1 w1 hb1; have HB1 := Lib.hid (show Buf w.heap.size w w1 v1 (qBuf s (k + 1)) by rw [← qbuf_step hkn (news := [92, 120, 48, 48]) (by rw [HC.out]; decide)]; exact hb1); clear hb1)
        all_goals (
          go_wp2_with fail
          go_roundw
          case rel => exact ⟨k + 1, by omega, by go_num, HB1.out⟩
          case measure => simp [intOf]; omega)
      · have hc : ((s[k]'hkn).toNat : Int) = 1 := by omega
        have HC := Lib.hid (getD_eq hkn (n := 1) (by omega) hc)
        have a1 : bits .and .u8 1 15 = 1 := by decide
        have e0 : ∀ h, ((⟨#[48, 49, 50, 51, 52, 53, 54, 55, 56, 57, 97, 98, 99, 100, 101, 102]⟩ : ByteArray)[0]'h).toNat = 48 := fun _ => rfl
        have e1 : ∀ h, ((⟨#[48, 49, 50, 51, 52, 53, 54, 55, 56, 57, 97, 98, 99, 100, 101, 102]⟩ : ByteArray)[1]'h).toNat = 49 := fun _ => rfl
        clear h128 hraw hn
        go_wp2_with fail
        go_region_law (refine buf_step rfl _ _ rfl [92, 120, 48, 49] 4 rfl wr.heap.size (by simp [Act.eval]) (by simp [Act.eval]) (cells_lit wr _ _ rfl) (HB.out.lit _) (by omega) ?_; intro v1 w1 hb1; have HB1 := Lib.hid (show Buf w.heap.size w w1 v1 (qBuf s (k + 1)) by rw [← qbuf_step hkn (news := [92, 120, 48, 49]) (by rw [HC.out]; decide)]; exact hb1); clear hb1)
        all_goals (
          go_wp2_with fail
          go_roundw
          case rel => exact ⟨k + 1, by omega, by go_num, HB1.out⟩
          case measure => simp [intOf]; omega)
      · have hc : ((s[k]'hkn).toNat : Int) = 2 := by omega
        have HC := Lib.hid (getD_eq hkn (n := 2) (by omega) hc)
        have a1 : bits .and .u8 2 15 = 2 := by decide
        have e0 : ∀ h, ((⟨#[48, 49, 50, 51, 52, 53, 54, 55, 56, 57, 97, 98, 99, 100, 101, 102]⟩ : ByteArray)[0]'h).toNat = 48 := fun _ => rfl
        have e1 : ∀ h, ((⟨#[48, 49, 50, 51, 52, 53, 54, 55, 56, 57, 97, 98, 99, 100, 101, 102]⟩ : ByteArray)[2]'h).toNat = 50 := fun _ => rfl
        clear h128 hraw hn
        go_wp2_with fail
        go_region_law (refine buf_step rfl _ _ rfl [92, 120, 48, 50] 4 rfl wr.heap.size (by simp [Act.eval]) (by simp [Act.eval]) (cells_lit wr _ _ rfl) (HB.out.lit _) (by omega) ?_; intro v1 w1 hb1; have HB1 := Lib.hid (show Buf w.heap.size w w1 v1 (qBuf s (k + 1)) by rw [← qbuf_step hkn (news := [92, 120, 48, 50]) (by rw [HC.out]; decide)]; exact hb1); clear hb1)
        all_goals (
          go_wp2_with fail
          go_roundw
          case rel => exact ⟨k + 1, by omega, by go_num, HB1.out⟩
          case measure => simp [intOf]; omega)
      · have hc : ((s[k]'hkn).toNat : Int) = 3 := by omega
        have HC := Lib.hid (getD_eq hkn (n := 3) (by omega) hc)
        have a1 : bits .and .u8 3 15 = 3 := by decide
        have e0 : ∀ h, ((⟨#[48, 49, 50, 51, 52, 53, 54, 55, 56, 57, 97, 98, 99, 100, 101, 102]⟩ : ByteArray)[0]'h).toNat = 48 := fun _ => rfl
        have e1 : ∀ h, ((⟨#[48, 49, 50, 51, 52, 53, 54, 55, 56, 57, 97, 98, 99, 100, 101, 102]⟩ : ByteArray)[3]'h).toNat = 51 := fun _ => rfl
        clear h128 hraw hn
        go_wp2_with fail
        go_region_law (refine buf_step rfl _ _ rfl [92, 120, 48, 51] 4 rfl wr.heap.size (by simp [Act.eval]) (by simp [Act.eval]) (cells_lit wr _ _ rfl) (HB.out.lit _) (by omega) ?_; intro v1 w1 hb1; have HB1 := Lib.hid (show Buf w.heap.size w w1 v1 (qBuf s (k + 1)) by rw [← qbuf_step hkn (news := [92, 120, 48, 51]) (by rw [HC.out]; decide)]; exact hb1); clear hb1)
        all_goals (
          go_wp2_with fail
          go_roundw
          case rel => exact ⟨k + 1, by omega, by go_num, HB1.out⟩
          case measure => simp [intOf]; omega)
      · have hc : ((s[k]'hkn).toNat : Int) = 4 := by omega
        have HC := Lib.hid (getD_eq hkn (n := 4) (by omega) hc)
        have a1 : bits .and .u8 4 15 = 4 := by decide
        have e0 : ∀ h, ((⟨#[48, 49, 50, 51, 52, 53, 54, 55, 56, 57, 97, 98, 99, 100, 101, 102]⟩ : ByteArray)[0]'h).toNat = 48 := fun _ => rfl
        have e1 : ∀ h, ((⟨#[48, 49, 50, 51, 52, 53, 54, 55, 56, 57, 97, 98, 99, 100, 101, 102]⟩ : ByteArray)[4]'h).toNat = 52 := fun _ => rfl
        clear h128 hraw hn
        go_wp2_with fail
        go_region_law (refine buf_step rfl _ _ rfl [92, 120, 48, 52] 4 rfl wr.heap.size (by simp [Act.eval]) (by simp [Act.eval]) (cells_lit wr _ _ rfl) (HB.out.lit _) (by omega) ?_; intro v1 w1 hb1; have HB1 := Lib.hid (show Buf w.heap.size w w1 v1 (qBuf s (k + 1)) by rw [← qbuf_step hkn (news := [92, 120, 48, 52]) (by rw [HC.out]; decide)]; exact hb1); clear hb1)
        all_goals (
          go_wp2_with fail
          go_roundw
          case rel => exact ⟨k + 1, by omega, by go_num, HB1.out⟩
          case measure => simp [intOf]; omega)
      · have hc : ((s[k]'hkn).toNat : Int) = 5 := by omega
        have HC := Lib.hid (getD_eq hkn (n := 5) (by omega) hc)
        have a1 : bits .and .u8 5 15 = 5 := by decide
        have e0 : ∀ h, ((⟨#[48, 49, 50, 51, 52, 53, 54, 55, 56, 57, 97, 98, 99, 100, 101, 102]⟩ : ByteArray)[0]'h).toNat = 48 := fun _ => rfl
        have e1 : ∀ h, ((⟨#[48, 49, 50, 51, 52, 53, 54, 55, 56, 57, 97, 98, 99, 100, 101, 102]⟩ : ByteArray)[5]'h).toNat = 53 := fun _ => rfl
        clear h128 hraw hn
        go_wp2_with fail
        go_region_law (refine buf_step rfl _ _ rfl [92, 120, 48, 53] 4 rfl wr.heap.size (by simp [Act.eval]) (by simp [Act.eval]) (cells_lit wr _ _ rfl) (HB.out.lit _) (by omega) ?_; intro v1 w1 hb1; have HB1 := Lib.hid (show Buf w.heap.size w w1 v1 (qBuf s (k + 1)) by rw [← qbuf_step hkn (news := [92, 120, 48, 53]) (by rw [HC.out]; decide)]; exact hb1); clear hb1)
        all_goals (
          go_wp2_with fail
          go_roundw
          case rel => exact ⟨k + 1, by omega, by go_num, HB1.out⟩
          case measure => simp [intOf]; omega)
      · have hc : ((s[k]'hkn).toNat : Int) = 6 := by omega
        have HC := Lib.hid (getD_eq hkn (n := 6) (by omega) hc)
        have a1 : bits .and .u8 6 15 = 6 := by decide
        have e0 : ∀ h, ((⟨#[48, 49, 50, 51, 52, 53, 54, 55, 56, 57, 97, 98, 99, 100, 101, 102]⟩ : ByteArray)[0]'h).toNat = 48 := fun _ => rfl
        have e1 : ∀ h, ((⟨#[48, 49, 50, 51, 52, 53, 54, 55, 56, 57, 97, 98, 99, 100, 101, 102]⟩ : ByteArray)[6]'h).toNat = 54 := fun _ => rfl
        clear h128 hraw hn
        go_wp2_with fail
        go_region_law (refine buf_step rfl _ _ rfl [92, 120, 48, 54] 4 rfl wr.heap.size (by simp [Act.eval]) (by simp [Act.eval]) (cells_lit wr _ _ rfl) (HB.out.lit _) (by omega) ?_; intro v1 w1 hb1; have HB1 := Lib.hid (show Buf w.heap.size w w1 v1 (qBuf s (k + 1)) by rw [← qbuf_step hkn (news := [92, 120, 48, 54]) (by rw [HC.out]; decide)]; exact hb1); clear hb1)
        all_goals (
          go_wp2_with fail
          go_roundw
          case rel => exact ⟨k + 1, by omega, by go_num, HB1.out⟩
          case measure => simp [intOf]; omega)
      · have hc : ((s[k]'hkn).toNat : Int) = 14 := by omega
        have HC := Lib.hid (getD_eq hkn (n := 14) (by omega) hc)
        have a1 : bits .and .u8 14 15 = 14 := by decide
        have e0 : ∀ h, ((⟨#[48, 49, 50, 51, 52, 53, 54, 55, 56, 57, 97, 98, 99, 100, 101, 102]⟩ : ByteArray)[0]'h).toNat = 48 := fun _ => rfl
        have e1 : ∀ h, ((⟨#[48, 49, 50, 51, 52, 53, 54, 55, 56, 57, 97, 98, 99, 100, 101, 102]⟩ : ByteArray)[14]'h).toNat = 101 := fun _ => rfl
        clear h128 hraw hn
        go_wp2_with fail
        go_region_law (refine buf_step rfl _ _ rfl [92, 120, 48, 101] 4 rfl wr.heap.size (by simp [Act.eval]) (by simp [Act.eval]) (cells_lit wr _ _ rfl) (HB.out.lit _) (by omega) ?_; intro v1 w1 hb1; have HB1 := Lib.hid (show Buf w.heap.size w w1 v1 (qBuf s (k + 1)) by rw [← qbuf_step hkn (news := [92, 120, 48, 101]) (by rw [HC.out]; decide)]; exact hb1); clear hb1)
        all_goals (
          go_wp2_with fail
          go_roundw
          case rel => exact ⟨k + 1, by omega, by go_num, HB1.out⟩
          case measure => simp [intOf]; omega)
      · have hc : ((s[k]'hkn).toNat : Int) = 15 := by omega
        have HC := Lib.hid (getD_eq hkn (n := 15) (by omega) hc)
        have a1 : bits .and .u8 15 15 = 15 := by decide
        have e0 : ∀ h, ((⟨#[48, 49, 50, 51, 52, 53, 54, 55, 56, 57, 97, 98, 99, 100, 101, 102]⟩ : ByteArray)[0]'h).toNat = 48 := fun _ => rfl
        have e1 : ∀ h, ((⟨#[48, 49, 50, 51, 52, 53, 54, 55, 56, 57, 97, 98, 99, 100, 101, 102]⟩ : ByteArray)[15]'h).toNat = 102 := fun _ => rfl
        clear h128 hraw hn
        go_wp2_with fail
        go_region_law (refine buf_step rfl _ _ rfl [92, 120, 48, 102] 4 rfl wr.heap.size (by simp [Act.eval]) (by simp [Act.eval]) (cells_lit wr _ _ rfl) (HB.out.lit _) (by omega) ?_; intro v1 w1 hb1; have HB1 := Lib.hid (show Buf w.heap.size w w1 v1 (qBuf s (k + 1)) by rw [← qbuf_step hkn (news := [92, 120, 48, 102]) (by rw [HC.out]; decide)]; exact hb1); clear hb1)
        all_goals (
          go_wp2_with fail
          go_roundw
          case rel => exact ⟨k + 1, by omega, by go_num, HB1.out⟩
          case measure => simp [intOf]; omega)
      · have hc : ((s[k]'hkn).toNat : Int) = 16 := by omega
        have HC := Lib.hid (getD_eq hkn (n := 16) (by omega) hc)
        have a1 : bits .and .u8 16 15 = 0 := by decide
        have e0 : ∀ h, ((⟨#[48, 49, 50, 51, 52, 53, 54, 55, 56, 57, 97, 98, 99, 100, 101, 102]⟩ : ByteArray)[0]'h).toNat = 48 := fun _ => rfl
        have e1 : ∀ h, ((⟨#[48, 49, 50, 51, 52, 53, 54, 55, 56, 57, 97, 98, 99, 100, 101, 102]⟩ : ByteArray)[1]'h).toNat = 49 := fun _ => rfl
        clear h128 hraw hn
        go_wp2_with fail
        go_region_law (refine buf_step rfl _ _ rfl [92, 120, 49, 48] 4 rfl wr.heap.size (by simp [Act.eval]) (by simp [Act.eval]) (cells_lit wr _ _ rfl) (HB.out.lit _) (by omega) ?_; intro v1 w1 hb1; have HB1 := Lib.hid (show Buf w.heap.size w w1 v1 (qBuf s (k + 1)) by rw [← qbuf_step hkn (news := [92, 120, 49, 48]) (by rw [HC.out]; decide)]; exact hb1); clear hb1)
        all_goals (
          go_wp2_with fail
          go_roundw
          case rel => exact ⟨k + 1, by omega, by go_num, HB1.out⟩
          case measure => simp [intOf]; omega)
      · have hc : ((s[k]'hkn).toNat : Int) = 17 := by omega
        have HC := Lib.hid (getD_eq hkn (n := 17) (by omega) hc)
        have a1 : bits .and .u8 17 15 = 1 := by decide
        have e0 : ∀ h, ((⟨#[48, 49, 50, 51, 52, 53, 54, 55, 56, 57, 97, 98, 99, 100, 101, 102]⟩ : ByteArray)[1]'h).toNat = 49 := fun _ => rfl
        clear h128 hraw hn
        go_wp2_with fail
        go_region_law (refine buf_step rfl _ _ rfl [92, 120, 49, 49] 4 rfl wr.heap.size (by simp [Act.eval]) (by simp [Act.eval]) (cells_lit wr _ _ rfl) (HB.out.lit _) (by omega) ?_; intro v1 w1 hb1; have HB1 := Lib.hid (show Buf w.heap.size w w1 v1 (qBuf s (k + 1)) by rw [← qbuf_step hkn (news := [92, 120, 49, 49]) (by rw [HC.out]; decide)]; exact hb1); clear hb1)
        all_goals (
          go_wp2_with fail
          go_roundw
          case rel => exact ⟨k + 1, by omega, by go_num, HB1.out⟩
          case measure => simp [intOf]; omega)
      · have hc : ((s[k]'hkn).toNat : Int) = 18 := by omega
        have HC := Lib.hid (getD_eq hkn (n := 18) (by omega) hc)
        have a1 : bits .and .u8 18 15 = 2 := by decide
        have e0 : ∀ h, ((⟨#[48, 49, 50, 51, 52, 53, 54, 55, 56, 57, 97, 98, 99, 100, 101, 102]⟩ : ByteArray)[1]'h).toNat = 49 := fun _ => rfl
        have e1 : ∀ h, ((⟨#[48, 49, 50, 51, 52, 53, 54, 55, 56, 57, 97, 98, 99, 100, 101, 102]⟩ : ByteArray)[2]'h).toNat = 50 := fun _ => rfl
        clear h128 hraw hn
        go_wp2_with fail
        go_region_law (refine buf_step rfl _ _ rfl [92, 120, 49, 50] 4 rfl wr.heap.size (by simp [Act.eval]) (by simp [Act.eval]) (cells_lit wr _ _ rfl) (HB.out.lit _) (by omega) ?_; intro v1 w1 hb1; have HB1 := Lib.hid (show Buf w.heap.size w w1 v1 (qBuf s (k + 1)) by rw [← qbuf_step hkn (news := [92, 120, 49, 50]) (by rw [HC.out]; decide)]; exact hb1); clear hb1)
        all_goals (
          go_wp2_with fail
          go_roundw
          case rel => exact ⟨k + 1, by omega, by go_num, HB1.out⟩
          case measure => simp [intOf]; omega)
      · have hc : ((s[k]'hkn).toNat : Int) = 19 := by omega
        have HC := Lib.hid (getD_eq hkn (n := 19) (by omega) hc)
        have a1 : bits .and .u8 19 15 = 3 := by decide
        have e0 : ∀ h, ((⟨#[48, 49, 50, 51, 52, 53, 54, 55, 56, 57, 97, 98, 99, 100, 101, 102]⟩ : ByteArray)[1]'h).toNat = 49 := fun _ => rfl
        have e1 : ∀ h, ((⟨#[48, 49, 50, 51, 52, 53, 54, 55, 56, 57, 97, 98, 99, 100, 101, 102]⟩ : ByteArray)[3]'h).toNat = 51 := fun _ => rfl
        clear h128 hraw hn
        go_wp2_with fail
        go_region_law (refine buf_step rfl _ _ rfl [92, 120, 49, 51] 4 rfl wr.heap.size (by simp [Act.eval]) (by simp [Act.eval]) (cells_lit wr _ _ rfl) (HB.out.lit _) (by omega) ?_; intro v1 w1 hb1; have HB1 := Lib.hid (show Buf w.heap.size w w1 v1 (qBuf s (k + 1)) by rw [← qbuf_step hkn (news := [92, 120, 49, 51]) (by rw [HC.out]; decide)]; exact hb1); clear hb1)
        all_goals (
          go_wp2_with fail
          go_roundw
          case rel => exact ⟨k + 1, by omega, by go_num, HB1.out⟩
          case measure => simp [intOf]; omega)
      · have hc : ((s[k]'hkn).toNat : Int) = 20 := by omega
        have HC := Lib.hid (getD_eq hkn (n := 20) (by omega) hc)
        have a1 : bits .and .u8 20 15 = 4 := by decide
        have e0 : ∀ h, ((⟨#[48, 49, 50, 51, 52, 53, 54, 55, 56, 57, 97, 98, 99, 100, 101, 102]⟩ : ByteArray)[1]'h).toNat = 49 := fun _ => rfl
        have e1 : ∀ h, ((⟨#[48, 49, 50, 51, 52, 53, 54, 55, 56, 57, 97, 98, 99, 100, 101, 102]⟩ : ByteArray)[4]'h).toNat = 52 := fun _ => rfl
        clear h128 hraw hn
        go_wp2_with fail
        go_region_law (refine buf_step rfl _ _ rfl [92, 120, 49, 52] 4 rfl wr.heap.size (by simp [Act.eval]) (by simp [Act.eval]) (cells_lit wr _ _ rfl) (HB.out.lit _) (by omega) ?_; intro v1 w1 hb1; have HB1 := Lib.hid (show Buf w.heap.size w w1 v1 (qBuf s (k + 1)) by rw [← qbuf_step hkn (news := [92, 120, 49, 52]) (by rw [HC.out]; decide)]; exact hb1); clear hb1)
        all_goals (
          go_wp2_with fail
          go_roundw
          case rel => exact ⟨k + 1, by omega, by go_num, HB1.out⟩
          case measure => simp [intOf]; omega)
      · have hc : ((s[k]'hkn).toNat : Int) = 21 := by omega
        have HC := Lib.hid (getD_eq hkn (n := 21) (by omega) hc)
        have a1 : bits .and .u8 21 15 = 5 := by decide
        have e0 : ∀ h, ((⟨#[48, 49, 50, 51, 52, 53, 54, 55, 56, 57, 97, 98, 99, 100, 101, 102]⟩ : ByteArray)[1]'h).toNat = 49 := fun _ => rfl
        have e1 : ∀ h, ((⟨#[48, 49, 50, 51, 52, 53, 54, 55, 56, 57, 97, 98, 99, 100, 101, 102]⟩ : ByteArray)[5]'h).toNat = 53 := fun _ => rfl
        clear h128 hraw hn
        go_wp2_with fail
        go_region_law (refine buf_step rfl _ _ rfl [92, 120, 49, 53] 4 rfl wr.heap.size (by simp [Act.eval]) (by simp [Act.eval]) (cells_lit wr _ _ rfl) (HB.out.lit _) (by omega) ?_; intro v1 w1 hb1; have HB1 := Lib.hid (show Buf w.heap.size w w1 v1 (qBuf s (k + 1)) by rw [← qbuf_step hkn (news := [92, 120, 49, 53]) (by rw [HC.out]; decide)]; exact hb1); clear hb1)
        all_goals (
          go_wp2_with fail
          go_roundw
          case rel => exact ⟨k + 1, by omega, by go_num, HB1.out⟩
          case measure => simp [intOf]; omega)
      · have hc : ((s[k]'hkn).toNat : Int) = 22 := by omega
        have HC := Lib.hid (getD_eq hkn (n := 22) (by omega) hc)
        have a1 : bits .and .u8 22 15 = 6 := by decide
        have e0 : ∀ h, ((⟨#[48, 49, 50, 51, 52, 53, 54, 55, 56, 57, 97, 98, 99, 100, 101, 102]⟩ : ByteArray)[1]'h).toNat = 49 := fun _ => rfl
        have e1 : ∀ h, ((⟨#[48, 49, 50, 51, 52, 53, 54, 55, 56, 57, 97, 98, 99, 100, 101, 102]⟩ : ByteArray)[6]'h).toNat = 54 := fun _ => rfl
        clear h128 hraw hn
        go_wp2_with fail
        go_region_law (refine buf_step rfl _ _ rfl [92, 120, 49, 54] 4 rfl wr.heap.size (by simp [Act.eval]) (by simp [Act.eval]) (cells_lit wr _ _ rfl) (HB.out.lit _) (by omega) ?_; intro v1 w1 hb1; have HB1 := Lib.hid (show Buf w.heap.size w w1 v1 (qBuf s (k + 1)) by rw [← qbuf_step hkn (news := [92, 120, 49, 54]) (by rw [HC.out]; decide)]; exact hb1); clear hb1)
        all_goals (
          go_wp2_with fail
          go_roundw
          case rel => exact ⟨k + 1, by omega, by go_num, HB1.out⟩
          case measure => simp [intOf]; omega)
      · have hc : ((s[k]'hkn).toNat : Int) = 23 := by omega
        have HC := Lib.hid (getD_eq hkn (n := 23) (by omega) hc)
        have a1 : bits .and .u8 23 15 = 7 := by decide
        have e0 : ∀ h, ((⟨#[48, 49, 50, 51, 52, 53, 54, 55, 56, 57, 97, 98, 99, 100, 101, 102]⟩ : ByteArray)[1]'h).toNat = 49 := fun _ => rfl
        have e1 : ∀ h, ((⟨#[48, 49, 50, 51, 52, 53, 54, 55, 56, 57, 97, 98, 99, 100, 101, 102]⟩ : ByteArray)[7]'h).toNat = 55 := fun _ => rfl
        clear h128 hraw hn
        go_wp2_with fail
        go_region_law (refine buf_step rfl _ _ rfl [92, 120, 49, 55] 4 rfl wr.heap.size (by simp [Act.eval]) (by simp [Act.eval]) (cells_lit wr _ _ rfl) (HB.out.lit _) (by omega) ?_; intro v1 w1 hb1; have HB1 := Lib.hid (show Buf w.heap.size w w1 v1 (qBuf s (k + 1)) by rw [← qbuf_step hkn (news := [92, 120, 49, 55]) (by rw [HC.out]; decide)]; exact hb1); clear hb1)
        all_goals (
          go_wp2_with fail
          go_roundw
          case rel => exact ⟨k + 1, by omega, by go_num, HB1.out⟩
          case measure => simp [intOf]; omega)
      · have hc : ((s[k]'hkn).toNat : Int) = 24 := by omega
        have HC := Lib.hid (getD_eq hkn (n := 24) (by omega) hc)
        have a1 : bits .and .u8 24 15 = 8 := by decide
        have e0 : ∀ h, ((⟨#[48, 49, 50, 51, 52, 53, 54, 55, 56, 57, 97, 98, 99, 100, 101, 102]⟩ : ByteArray)[1]'h).toNat = 49 := fun _ => rfl
        have e1 : ∀ h, ((⟨#[48, 49, 50, 51, 52, 53, 54, 55, 56, 57, 97, 98, 99, 100, 101, 102]⟩ : ByteArray)[8]'h).toNat = 56 := fun _ => rfl
        clear h128 hraw hn
        go_wp2_with fail
        go_region_law (refine buf_step rfl _ _ rfl [92, 120, 49, 56] 4 rfl wr.heap.size (by simp [Act.eval]) (by simp [Act.eval]) (cells_lit wr _ _ rfl) (HB.out.lit _) (by omega) ?_; intro v1 w1 hb1; have HB1 := Lib.hid (show Buf w.heap.size w w1 v1 (qBuf s (k + 1)) by rw [← qbuf_step hkn (news := [92, 120, 49, 56]) (by rw [HC.out]; decide)]; exact hb1); clear hb1)
        all_goals (
          go_wp2_with fail
          go_roundw
          case rel => exact ⟨k + 1, by omega, by go_num, HB1.out⟩
          case measure => simp [intOf]; omega)
      · have hc : ((s[k]'hkn).toNat : Int) = 25 := by omega
        have HC := Lib.hid (getD_eq hkn (n := 25) (by omega) hc)
        have a1 : bits .and .u8 25 15 = 9 := by decide
        have e0 : ∀ h, ((⟨#[48, 49, 50, 51, 52, 53, 54, 55, 56, 57, 97, 98, 99, 100, 101, 102]⟩ : ByteArray)[1]'h).toNat = 49 := fun _ => rfl
        have e1 : ∀ h, ((⟨#[48, 49, 50, 51, 52, 53, 54, 55, 56, 57, 97, 98, 99, 100, 101, 102]⟩ : ByteArray)[9]'h).toNat = 57 := fun _ => rfl
        clear h128 hraw hn
        go_wp2_with fail
        go_region_law (refine buf_step rfl _ _ rfl [92, 120, 49, 57] 4 rfl wr.heap.size (by simp [Act.eval]) (by simp [Act.eval]) (cells_lit wr _ _ rfl) (HB.out.lit _) (by omega) ?_; intro v1 w1 hb1; have HB1 := Lib.hid (show Buf w.heap.size w w1 v1 (qBuf s (k + 1)) by rw [← qbuf_step hkn (news := [92, 120, 49, 57]) (by rw [HC.out]; decide)]; exact hb1); clear hb1)
        all_goals (
          go_wp2_with fail
          go_roundw
          case rel => exact ⟨k + 1, by omega, by go_num, HB1.out⟩
          case measure => simp [intOf]; omega)
      · have hc : ((s[k]'hkn).toNat : Int) = 26 := by omega
        have HC := Lib.hid (getD_eq hkn (n := 26) (by omega) hc)
        have a1 : bits .and .u8 26 15 = 10 := by decide
        have e0 : ∀ h, ((⟨#[48, 49, 50, 51, 52, 53, 54, 55, 56, 57, 97, 98, 99, 100, 101, 102]⟩ : ByteArray)[1]'h).toNat = 49 := fun _ => rfl
        have e1 : ∀ h, ((⟨#[48, 49, 50, 51, 52, 53, 54, 55, 56, 57, 97, 98, 99, 100, 101, 102]⟩ : ByteArray)[10]'h).toNat = 97 := fun _ => rfl
        clear h128 hraw hn
        go_wp2_with fail
        go_region_law (refine buf_step rfl _ _ rfl [92, 120, 49, 97] 4 rfl wr.heap.size (by simp [Act.eval]) (by simp [Act.eval]) (cells_lit wr _ _ rfl) (HB.out.lit _) (by omega) ?_; intro v1 w1 hb1; have HB1 := Lib.hid (show Buf w.heap.size w w1 v1 (qBuf s (k + 1)) by rw [← qbuf_step hkn (news := [92, 120, 49, 97]) (by rw [HC.out]; decide)]; exact hb1); clear hb1)
        all_goals (
          go_wp2_with fail
          go_roundw
          case rel => exact ⟨k + 1, by omega, by go_num, HB1.out⟩
          case measure => simp [intOf]; omega)
      · have hc : ((s[k]'hkn).toNat : Int) = 27 := by omega
        have HC := Lib.hid (getD_eq hkn (n := 27) (by omega) hc)
        have a1 : bits .and .u8 27 15 = 11 := by decide
        have e0 : ∀ h, ((⟨#[48, 49, 50, 51, 52, 53, 54, 55, 56, 57, 97, 98, 99, 100, 101, 102]⟩ : ByteArray)[1]'h).toNat = 49 := fun _ => rfl
        have e1 : ∀ h, ((⟨#[48, 49, 50, 51, 52, 53, 54, 55, 56, 57, 97, 98, 99, 100, 101, 102]⟩ : ByteArray)[11]'h).toNat = 98 := fun _ => rfl
        clear h128 hraw hn
        go_wp2_with fail
        go_region_law (refine buf_step rfl _ _ rfl [92, 120, 49, 98] 4 rfl wr.heap.size (by simp [Act.eval]) (by simp [Act.eval]) (cells_lit wr _ _ rfl) (HB.out.lit _) (by omega) ?_; intro v1 w1 hb1; have HB1 := Lib.hid (show Buf w.heap.size w w1 v1 (qBuf s (k + 1)) by rw [← qbuf_step hkn (news := [92, 120, 49, 98]) (by rw [HC.out]; decide)]; exact hb1); clear hb1)
        all_goals (
          go_wp2_with fail
          go_roundw
          case rel => exact ⟨k + 1, by omega, by go_num, HB1.out⟩
          case measure => simp [intOf]; omega)
      · have hc : ((s[k]'hkn).toNat : Int) = 28 := by omega
        have HC := Lib.hid (getD_eq hkn (n := 28) (by omega) hc)
        have a1 : bits .and .u8 28 15 = 12 := by decide
        have e0 : ∀ h, ((⟨#[48, 49, 50, 51, 52, 53, 54, 55, 56, 57, 97, 98, 99, 100, 101, 102]⟩ : ByteArray)[1]'h).toNat = 49 := fun _ => rfl
        have e1 : ∀ h, ((⟨#[48, 49, 50, 51, 52, 53, 54, 55, 56, 57, 97, 98, 99, 100, 101, 102]⟩ : ByteArray)[12]'h).toNat = 99 := fun _ => rfl
        clear h128 hraw hn
        go_wp2_with fail
        go_region_law (refine buf_step rfl _ _ rfl [92, 120, 49, 99] 4 rfl wr.heap.size (by simp [Act.eval]) (by simp [Act.eval]) (cells_lit wr _ _ rfl) (HB.out.lit _) (by omega) ?_; intro v1 w1 hb1; have HB1 := Lib.hid (show Buf w.heap.size w w1 v1 (qBuf s (k + 1)) by rw [← qbuf_step hkn (news := [92, 120, 49, 99]) (by rw [HC.out]; decide)]; exact hb1); clear hb1)
        all_goals (
          go_wp2_with fail
          go_roundw
          case rel => exact ⟨k + 1, by omega, by go_num, HB1.out⟩
          case measure => simp [intOf]; omega)
      · have hc : ((s[k]'hkn).toNat : Int) = 29 := by omega
        have HC := Lib.hid (getD_eq hkn (n := 29) (by omega) hc)
        have a1 : bits .and .u8 29 15 = 13 := by decide
        have e0 : ∀ h, ((⟨#[48, 49, 50, 51, 52, 53, 54, 55, 56, 57, 97, 98, 99, 100, 101, 102]⟩ : ByteArray)[1]'h).toNat = 49 := fun _ => rfl
        have e1 : ∀ h, ((⟨#[48, 49, 50, 51, 52, 53, 54, 55, 56, 57, 97, 98, 99, 100, 101, 102]⟩ : ByteArray)[13]'h).toNat = 100 := fun _ => rfl
        clear h128 hraw hn
        go_wp2_with fail
        go_region_law (refine buf_step rfl _ _ rfl [92, 120, 49, 100] 4 rfl wr.heap.size (by simp [Act.eval]) (by simp [Act.eval]) (cells_lit wr _ _ rfl) (HB.out.lit _) (by omega) ?_; intro v1 w1 hb1; have HB1 := Lib.hid (show Buf w.heap.size w w1 v1 (qBuf s (k + 1)) by rw [← qbuf_step hkn (news := [92, 120, 49, 100]) (by rw [HC.out]; decide)]; exact hb1); clear hb1)
        all_goals (
          go_wp2_with fail
          go_roundw
          case rel => exact ⟨k + 1, by omega, by go_num, HB1.out⟩
          case measure => simp [intOf]; omega)
      · have hc : ((s[k]'hkn).toNat : Int) = 30 := by omega
        have HC := Lib.hid (getD_eq hkn (n := 30) (by omega) hc)
        have a1 : bits .and .u8 30 15 = 14 := by decide
        have e0 : ∀ h, ((⟨#[48, 49, 50, 51, 52, 53, 54, 55, 56, 57, 97, 98, 99, 100, 101, 102]⟩ : ByteArray)[1]'h).toNat = 49 := fun _ => rfl
        have e1 : ∀ h, ((⟨#[48, 49, 50, 51, 52, 53, 54, 55, 56, 57, 97, 98, 99, 100, 101, 102]⟩ : ByteArray)[14]'h).toNat = 101 := fun _ => rfl
        clear h128 hraw hn
        go_wp2_with fail
        go_region_law (refine buf_step rfl _ _ rfl [92, 120, 49, 101] 4 rfl wr.heap.size (by simp [Act.eval]) (by simp [Act.eval]) (cells_lit wr _ _ rfl) (HB.out.lit _) (by omega) ?_; intro v1 w1 hb1; have HB1 := Lib.hid (show Buf w.heap.size w w1 v1 (qBuf s (k + 1)) by rw [← qbuf_step hkn (news := [92, 120, 49, 101]) (by rw [HC.out]; decide)]; exact hb1); clear hb1)
        all_goals (
          go_wp2_with fail
          go_roundw
          case rel => exact ⟨k + 1, by omega, by go_num, HB1.out⟩
          case measure => simp [intOf]; omega)
      · have hc : ((s[k]'hkn).toNat : Int) = 31 := by omega
        have HC := Lib.hid (getD_eq hkn (n := 31) (by omega) hc)
        have a1 : bits .and .u8 31 15 = 15 := by decide
        have e0 : ∀ h, ((⟨#[48, 49, 50, 51, 52, 53, 54, 55, 56, 57, 97, 98, 99, 100, 101, 102]⟩ : ByteArray)[1]'h).toNat = 49 := fun _ => rfl
        have e1 : ∀ h, ((⟨#[48, 49, 50, 51, 52, 53, 54, 55, 56, 57, 97, 98, 99, 100, 101, 102]⟩ : ByteArray)[15]'h).toNat = 102 := fun _ => rfl
        clear h128 hraw hn
        go_wp2_with fail
        go_region_law (refine buf_step rfl _ _ rfl [92, 120, 49, 102] 4 rfl wr.heap.size (by simp [Act.eval]) (by simp [Act.eval]) (cells_lit wr _ _ rfl) (HB.out.lit _) (by omega) ?_; intro v1 w1 hb1; have HB1 := Lib.hid (show Buf w.heap.size w w1 v1 (qBuf s (k + 1)) by rw [← qbuf_step hkn (news := [92, 120, 49, 102]) (by rw [HC.out]; decide)]; exact hb1); clear hb1)
        all_goals (
          go_wp2_with fail
          go_roundw
          case rel => exact ⟨k + 1, by omega, by go_num, HB1.out⟩
          case measure => simp [intOf]; omega)
      · have hc : ((s[k]'hkn).toNat : Int) = 127 := by omega
        have HC := Lib.hid (getD_eq hkn (n := 127) (by omega) hc)
        have a1 : bits .and .u8 127 15 = 15 := by decide
        have e0 : ∀ h, ((⟨#[48, 49, 50, 51, 52, 53, 54, 55, 56, 57, 97, 98, 99, 100, 101, 102]⟩ : ByteArray)[7]'h).toNat = 55 := fun _ => rfl
        have e1 : ∀ h, ((⟨#[48, 49, 50, 51, 52, 53, 54, 55, 56, 57, 97, 98, 99, 100, 101, 102]⟩ : ByteArray)[15]'h).toNat = 102 := fun _ => rfl
        clear h128 hraw hn
        go_wp2_with fail
        go_region_law (refine buf_step rfl _ _ rfl [92, 120, 55, 102] 4 rfl wr.heap.size (by simp [Act.eval]) (by simp [Act.eval]) (cells_lit wr _ _ rfl) (HB.out.lit _) (by omega) ?_; intro v1 w1 hb1; have HB1 := Lib.hid (show Buf w.heap.size w w1 v1 (qBuf s (k + 1)) by rw [← qbuf_step hkn (news := [92, 120, 55, 102]) (by rw [HC.out]; decide)]; exact hb1); clear hb1)
        all_goals (
          go_wp2_with fail
          go_roundw
          case rel => exact ⟨k + 1, by omega, by go_num, HB1.out⟩
          case measure => simp [intOf]; omega)
    · go_wp2_with (at_builtin; refine buf_add rfl _ _ rfl [34] _ rfl 1 rfl rfl rfl HB.out (by omega) ?_)
      intro v1 w1 hb1
      have hcv := buf_text hb1
      rw [qbuf_end HA.out (by omega)] at hcv
      have HBB := Lib.hid hb1.2.1
      clear hb1
      go_wp2_with fail
      go_ret
      exact ⟨rfl, HBB.out⟩
end Go.Proofs.YtiofodmlgneieaaGreatFmt

/- n025_27: printable ASCII, the law's own quoting of it. Conditions: fmt's text is told by the model's FmtText; the dump is cut with -reflectrows -leanrows. -/
import Derived.Test.YtiofodmlgneieaaGreatFmtL5a
namespace Go.Proofs.YtiofodmlgneieaaGreatFmt
open Go.RowKit Go.Extern.Stop Go.Stop Go.Extern Go.Kit
def PrintTo (s : ByteArray) (k : Nat) : Prop := ∀ (j : Nat) (b : UInt8), j < k → s.data.toList[j]? = some b → 32 ≤ b.toNat ∧ b.toNat ≤ 126
def PrintS (s : ByteArray) : Prop := ∀ (j : Nat) (b : UInt8), s.data.toList[j]? = some b → 32 ≤ b.toNat ∧ b.toNat ≤ 126
theorem print_step {s : ByteArray} {k : Nat} (h : PrintTo s k) (hk : k < s.size) (h1 : ¬ ((s[k]'hk).toNat : Int) < 32) (h2 : ¬ (126 : Int) < ((s[k]'hk).toNat : Int)) : PrintTo s (k + 1) := by
  intro j b hj hjb
  by_cases e : j = k
  · subst e
    rw [byte_at s j hk] at h1 h2
    have : s.data.toList.getD j 0 = b := by rw [List.getD_eq_getElem?_getD, hjb]; rfl
    rw [this] at h1 h2
    omega
  · exact h j b (by omega) hjb
theorem print_all {s : ByteArray} {k : Nat} (h : PrintTo s k) (hk : s.size ≤ k) : PrintS s := fun j b hjb => h j b (by
  have hl := (List.getElem?_eq_some_iff.1 hjb).1
  have : s.data.toList.length = s.size := rfl
  omega) hjb
theorem print_ascii {s : ByteArray} (h : PrintS s) : AsciiS s := fun j b hjb => by have := h j b hjb; omega
theorem print_at {s : ByteArray} (h : PrintS s) (k : Nat) (hk : k < s.size) : 32 ≤ (s[k]'hk).toNat ∧ (s[k]'hk).toNat ≤ 126 := h k _ (by
  have h2 : k < s.data.toList.length := hk
  rw [List.getElem?_eq_getElem h2]
  rfl)
set_option maxRecDepth 100000 in
theorem print_any (s : ByteArray) (w : World) (hs : s.size ≤ 4194304) : Calls Tryz.prog 14 #[.string s] w fun e w' => (e = .returned (.bool false) ∨ (e = .returned (.bool true) ∧ PrintS s)) ∧ w = w' := by
  go_enter Tryz.func14, Tryz.ntmps14
  go_wp2
  go_loop [3] (fun i => ∃ k : Nat, k ≤ s.size ∧ i = .int .i64 k ∧ Hid (PrintTo s k)) (fun i => s.size - (intOf i).toNat)
  case atStart => exact ⟨0, Nat.zero_le _, rfl, fun j b hj _ => absurd hj (Nat.not_lt_zero j)⟩
  case round =>
    obtain ⟨k, hk, rfl, HC⟩ := hrel
    by_cases hkn : k < s.size
    · by_cases h1 : ((s[k]'hkn).toNat : Int) < 32
      · go_wp2
        go_ret
        exact ⟨Or.inl rfl, rfl⟩
      by_cases h2 : (126 : Int) < ((s[k]'hkn).toNat : Int)
      · go_wp2
        go_ret
        exact ⟨Or.inl rfl, rfl⟩
      have HK := Lib.hid (print_step HC.out hkn h1 h2)
      go_wp2
      go_round
      case rel => exact ⟨k + 1, by omega, by go_num, HK.out⟩
      case measure => simp [intOf]; omega
    · go_wp2
      go_ret
      exact ⟨Or.inr ⟨rfl, print_all HC.out (by omega)⟩, rfl⟩
set_option maxHeartbeats 4000000 in
set_option maxRecDepth 100000 in
theorem quote27 (s : ByteArray) (w : World) (hs : s.size ≤ 1048576) (hp : PrintS s) :
    Calls Tryz.prog 16 #[.string s] w fun e w' => e = .returned (.string (quoteTxt s)) ∧ Below w.heap.size w w' := by
  have HA := Lib.hid (print_ascii hp)
  have HP := Lib.hid hp
  have hm := mk0 (2 * (s.size : Int) + 2) (2 * s.size + 2) (by omega) (by omega)
  clear hp
  go_enter Tryz.func16, Tryz.ntmps16
  go_wp2_with (at_builtin; refine buf_add rfl _ _ rfl [34] _ rfl 1 rfl rfl (by simp [Act.eval]) (mk0_buf w (2 * s.size + 2) (by omega)) (by simp) ?_)
  intro v0 w0 hb0
  have HB0 := Lib.hid (show Buf w.heap.size w w0 v0 (qBuf s 0) from hb0)
  clear hb0
  go_wp2_with fail
  go_loopw [3, 4] (fun v i wr => ∃ k : Nat, k ≤ s.size ∧ i = .int .i64 k ∧ Hid (Buf w.heap.size w wr v (qBuf s k))) (fun _ i _ => s.size - (intOf i).toNat)
  case atStart => exact ⟨0, Nat.zero_le _, rfl, HB0.out⟩
  case round =>
    obtain ⟨k, hk, rfl, HB⟩ := hrel
    have hlk := qbuf_len HA.out k hk
    by_cases hkn : k < s.size
    · have hpr := print_at HP.out k hkn
      by_cases h34 : (s[k]'hkn).toNat = 34
      · have hc : ((s[k]'hkn).toNat : Int) = 34 := by omega
        have HC := Lib.hid (getD_eq hkn (n := 34) (by omega) hc)
        clear hpr h34
        go_wp2_with (at_builtin; refine buf_add rfl _ _ rfl [92] _ rfl 1 rfl rfl rfl HB.out (by omega) ?_)
        intro v1 w1 hb1
        have HB1 := Lib.hid hb1
        clear hb1
        go_wp2_with (at_builtin; refine buf_add rfl _ _ rfl [34] _ rfl 1 rfl rfl rfl HB1.out (by simp; omega) ?_)
        intro v2 w2 hb2
        have HB2 := Lib.hid (show Buf w.heap.size w w2 v2 (qBuf s (k + 1)) by rw [← qbuf_step hkn (news := [92, 34]) (by rw [HC.out]; decide)]; simpa using hb2)
        clear hb2
        go_wp2_with fail
        go_roundw
        case rel => exact ⟨k + 1, by omega, by go_num, HB2.out⟩
        case measure => simp [intOf]; omega
      by_cases h92 : (s[k]'hkn).toNat = 92
      · have hc : ((s[k]'hkn).toNat : Int) = 92 := by omega
        have HC := Lib.hid (getD_eq hkn (n := 92) (by omega) hc)
        clear hpr h34 h92
        go_wp2_with (at_builtin; refine buf_add rfl _ _ rfl [92] _ rfl 1 rfl rfl rfl HB.out (by omega) ?_)
        intro v1 w1 hb1
        have HB1 := Lib.hid hb1
        clear hb1
        go_wp2_with (at_builtin; refine buf_add rfl _ _ rfl [92] _ rfl 1 rfl rfl rfl HB1.out (by simp; omega) ?_)
        intro v2 w2 hb2
        have HB2 := Lib.hid (show Buf w.heap.size w w2 v2 (qBuf s (k + 1)) by rw [← qbuf_step hkn (news := [92, 92]) (by rw [HC.out]; decide)]; simpa using hb2)
        clear hb2
        go_wp2_with fail
        go_roundw
        case rel => exact ⟨k + 1, by omega, by go_num, HB2.out⟩
        case measure => simp [intOf]; omega
      have e34 : (((s[k]'hkn).toNat : Int) == 34) = false := by simp; omega
      have e92 : (((s[k]'hkn).toNat : Int) == 92) = false := by simp; omega
      obtain ⟨cb, hcb⟩ : ∃ cb : UInt8, cb = s.data.toList.getD k 0 := ⟨_, rfl⟩
      have HC : Hid (escByte (s.data.toList.getD k 0) = [cb]) := by rw [hcb, ← byte_at s k hkn]; exact escByte_raw _ hpr.1 hpr.2 h34 h92
      have HG : Hid ([Value.int .u8 ((s[k]'hkn).toNat : Int)] = cellsOf [cb]) := by rw [hcb, ← byte_at s k hkn]; exact rfl
      clear hpr h34 h92 hcb
      go_wp2_with (at_builtin; refine buf_add rfl _ _ rfl [cb] _ HG.out 1 rfl rfl rfl HB.out (by omega) ?_)
      intro v1 w1 hb1
      have HB1 := Lib.hid (show Buf w.heap.size w w1 v1 (qBuf s (k + 1)) by rw [← qbuf_step hkn HC.out]; exact hb1)
      clear hb1
      go_wp2_with fail
      go_roundw
      case rel => exact ⟨k + 1, by omega, by go_num, HB1.out⟩
      case measure => simp [intOf]; omega
    · go_wp2_with (at_builtin; refine buf_add rfl _ _ rfl [34] _ rfl 1 rfl rfl rfl HB.out (by omega) ?_)
      intro v1 w1 hb1
      have hcv := buf_text hb1
      rw [qbuf_end HA.out (by omega)] at hcv
      have HBB := Lib.hid hb1.2.1
      clear hb1
      go_wp2_with fail
      go_ret
      exact ⟨rfl, HBB.out⟩
end Go.Proofs.YtiofodmlgneieaaGreatFmt

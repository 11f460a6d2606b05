/- The test for an identifier: a yes means ASCII. The seat's flags: -reflectrows -leanrows (see REPORT.md, TRANSLATOR). -/
import Derived.Test.YtfmlfaankmnfjaaGreatFmtEg
namespace Go.Proofs.YtfmlfaankmnfjaaGreatFmt
open Go.RowKit
set_option maxHeartbeats 4000000 in
set_option maxRecDepth 100000 in
theorem ident_any (s : ByteArray) (w : World) (hs : s.size ≤ 4194304) : Calls Tryz.prog 6 #[.string s] w fun e w' => IdEnd s e ∧ w = w' := by
  by_cases h0 : s.size = 0
  · go_enter Tryz.func6, Tryz.ntmps6
    go_wp2
    go_ret
    exact ⟨Or.inl rfl, rfl⟩
  go_enter Tryz.func6, Tryz.ntmps6
  go_wp2
  go_loop [3] (fun i => ∃ k : Nat, k ≤ s.size ∧ i = .int .i64 k ∧ Hid (AsciiTo s k)) (fun i => s.size - (intOf i).toNat)
  case atStart => exact ⟨0, Nat.zero_le _, rfl, fun j b hj _ => absurd hj (Nat.not_lt_zero j)⟩
  case round =>
    obtain ⟨k, hk, rfl, HC⟩ := hrel
    by_cases hkn : k < s.size
    · by_cases hk0 : k = 0
      · subst hk0
        by_cases hbig : (122 : Int) < ((s[0]'hkn).toNat : Int)
        · have d1 : decide (((s[0]'hkn).toNat : Int) ≤ 122) = false := by simp; omega
          have d2 : decide (((s[0]'hkn).toNat : Int) ≤ 90) = false := by simp; omega
          have d3 : (((s[0]'hkn).toNat : Int) == 95) = false := by simp; omega
          have d4 : decide (((s[0]'hkn).toNat : Int) ≤ 57) = false := by simp; omega
          go_wp2
          all_goals (go_ret; exact ⟨Or.inl rfl, rfl⟩)
        have H8 : Hid (((s[0]'hkn).toNat : Int) < 128) := (by omega : ((s[0]'hkn).toNat : Int) < 128)
        have hcase : (((s[0]'hkn).toNat : Int) < 48) ∨ ((48 : Int) ≤ ((s[0]'hkn).toNat : Int) ∧ ((s[0]'hkn).toNat : Int) ≤ 57) ∨ ((57 : Int) < ((s[0]'hkn).toNat : Int) ∧ ((s[0]'hkn).toNat : Int) < 65) ∨ ((65 : Int) ≤ ((s[0]'hkn).toNat : Int) ∧ ((s[0]'hkn).toNat : Int) ≤ 90) ∨ ((90 : Int) < ((s[0]'hkn).toNat : Int) ∧ ((s[0]'hkn).toNat : Int) < 95) ∨ ((95 : Int) ≤ ((s[0]'hkn).toNat : Int) ∧ ((s[0]'hkn).toNat : Int) ≤ 95) ∨ ((96 : Int) ≤ ((s[0]'hkn).toNat : Int) ∧ ((s[0]'hkn).toNat : Int) ≤ 96) ∨ ((97 : Int) ≤ ((s[0]'hkn).toNat : Int) ∧ ((s[0]'hkn).toNat : Int) ≤ 122) := by omega
        rcases hcase with h | ⟨h, h'⟩ | ⟨h, h'⟩ | ⟨h, h'⟩ | ⟨h, h'⟩ | ⟨h, h'⟩ | ⟨h, h'⟩ | ⟨h, h'⟩
        all_goals try have e1 : decide ((97 : Int) ≤ ((s[0]'hkn).toNat : Int)) = false := by simp; omega
        all_goals try have e2 : decide (((s[0]'hkn).toNat : Int) ≤ 122) = false := by simp; omega
        all_goals try have e3 : decide ((65 : Int) ≤ ((s[0]'hkn).toNat : Int)) = false := by simp; omega
        all_goals try have e4 : decide (((s[0]'hkn).toNat : Int) ≤ 90) = false := by simp; omega
        all_goals try have e5 : (((s[0]'hkn).toNat : Int) == 95) = false := by simp; omega
        all_goals try have e6 : decide ((48 : Int) ≤ ((s[0]'hkn).toNat : Int)) = false := by simp; omega
        all_goals try have e7 : decide (((s[0]'hkn).toNat : Int) ≤ 57) = false := by simp; omega
        all_goals go_wp2
        all_goals first
          | (go_ret; exact ⟨Or.inl rfl, rfl⟩)
          | (go_round
             case rel => exact ⟨1, by omega, by go_num, ascii_step HC.out hkn H8.out⟩
             case measure => simp [intOf]; omega)
      · by_cases hbig : (122 : Int) < ((s[k]'hkn).toNat : Int)
        · have d1 : decide (((s[k]'hkn).toNat : Int) ≤ 122) = false := by simp; omega
          have d2 : decide (((s[k]'hkn).toNat : Int) ≤ 90) = false := by simp; omega
          have d3 : (((s[k]'hkn).toNat : Int) == 95) = false := by simp; omega
          have d4 : decide (((s[k]'hkn).toNat : Int) ≤ 57) = false := by simp; omega
          go_wp2
          all_goals (go_ret; exact ⟨Or.inl rfl, rfl⟩)
        have H8 : Hid (((s[k]'hkn).toNat : Int) < 128) := (by omega : ((s[k]'hkn).toNat : Int) < 128)
        have hcase : (((s[k]'hkn).toNat : Int) < 48) ∨ ((48 : Int) ≤ ((s[k]'hkn).toNat : Int) ∧ ((s[k]'hkn).toNat : Int) ≤ 57) ∨ ((57 : Int) < ((s[k]'hkn).toNat : Int) ∧ ((s[k]'hkn).toNat : Int) < 65) ∨ ((65 : Int) ≤ ((s[k]'hkn).toNat : Int) ∧ ((s[k]'hkn).toNat : Int) ≤ 90) ∨ ((90 : Int) < ((s[k]'hkn).toNat : Int) ∧ ((s[k]'hkn).toNat : Int) < 95) ∨ ((95 : Int) ≤ ((s[k]'hkn).toNat : Int) ∧ ((s[k]'hkn).toNat : Int) ≤ 95) ∨ ((96 : Int) ≤ ((s[k]'hkn).toNat : Int) ∧ ((s[k]'hkn).toNat : Int) ≤ 96) ∨ ((97 : Int) ≤ ((s[k]'hkn).toNat : Int) ∧ ((s[k]'hkn).toNat : Int) ≤ 122) := by omega
        rcases hcase with h | ⟨h, h'⟩ | ⟨h, h'⟩ | ⟨h, h'⟩ | ⟨h, h'⟩ | ⟨h, h'⟩ | ⟨h, h'⟩ | ⟨h, h'⟩
        all_goals try have e1 : decide ((97 : Int) ≤ ((s[k]'hkn).toNat : Int)) = false := by simp; omega
        all_goals try have e2 : decide (((s[k]'hkn).toNat : Int) ≤ 122) = false := by simp; omega
        all_goals try have e3 : decide ((65 : Int) ≤ ((s[k]'hkn).toNat : Int)) = false := by simp; omega
        all_goals try have e4 : decide (((s[k]'hkn).toNat : Int) ≤ 90) = false := by simp; omega
        all_goals try have e5 : (((s[k]'hkn).toNat : Int) == 95) = false := by simp; omega
        all_goals try have e6 : decide ((48 : Int) ≤ ((s[k]'hkn).toNat : Int)) = false := by simp; omega
        all_goals try have e7 : decide (((s[k]'hkn).toNat : Int) ≤ 57) = false := by simp; omega
        all_goals go_wp2
        all_goals first
          | (go_ret; exact ⟨Or.inl rfl, rfl⟩)
          | (go_round
             case rel => exact ⟨k + 1, by omega, by go_num, ascii_step HC.out hkn H8.out⟩
             case measure => simp [intOf]; omega)
    · go_wp2
      go_ret
      exact ⟨Or.inr ⟨rfl, ascii_all HC.out (by omega)⟩, rfl⟩
end Go.Proofs.YtfmlfaankmnfjaaGreatFmt

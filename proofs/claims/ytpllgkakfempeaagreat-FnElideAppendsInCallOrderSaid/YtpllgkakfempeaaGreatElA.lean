/- The walks over two slices of strings that came in: their length test, their size. Conditions: the dump is cut with -reflectrows -leanrows. -/
import Derived.Test.YtpllgkakfempeaaGreatRows
import Derived.WalkKit
import Derived.Outline
import Derived.OneCell
import Derived.Deep.OwnRows
import Derived.Below
import Derived.Lib.Hide
namespace Go.Proofs.YtpllgkakfempeaaGreat
open Go.RowKit
def StrsIn (w : World) (ao : Option Addr) (n : Nat) (S : Nat → ByteArray) : Prop :=
  0 < n → ∃ b off, ao = some ⟨b, off, none⟩ ∧ b < w.heap.size ∧ ∀ i, i < n → w.cell? ⟨b, off + i, none⟩ = some (.string (S i))
set_option maxRecDepth 100000 in
theorem bytes_any (w : World) (ao : Option Addr) (n cap : Nat) (S : Nat → ByteArray) (h : StrsIn w ao n S) (hn : n ≤ 9223372036854775807) :
    Calls Tryz.prog 5 #[.slice ao n cap] w fun e w' => (∃ m : Int, e = .returned (.int .i64 m)) ∧ w = w' := by
  have H := Lib.hid h
  clear h
  go_enter Tryz.func5, Tryz.ntmps5
  go_wp2
  go_loop [3, 4] (fun m i => ∃ (k : Nat) (q : Int), k ≤ n ∧ i = .int .i64 k ∧ m = .int .i64 q) (fun _ i => n - (intOf i).toNat)
  case atStart => exact ⟨0, 0, Nat.zero_le _, rfl, rfl⟩
  case round =>
    obtain ⟨k, q, hk, rfl, rfl⟩ := hrel
    by_cases hkn : k < n
    · obtain ⟨b, off, rfl, hb, hc⟩ := H.out (by omega)
      have hc' := hc k hkn
      clear hc
      go_wp2
      go_round
      case rel => exact ⟨k + 1, _, by omega, by go_num, rfl⟩
      case measure => simp [intOf]; omega
    · go_wp2
      go_ret
      exact ⟨⟨_, rfl⟩, rfl⟩
def ZzEnd (na nb : Nat) (e : Ending) : Prop := e = .returned (.bool false) ∨ (e = .returned (.bool true) ∧ na ≤ 1048576 ∧ nb ≤ 1048576)
set_option maxRecDepth 100000 in
theorem zz_any (w : World) (ao bo : Option Addr) (na ca nb cb : Nat) (A B : Nat → ByteArray) (hA : StrsIn w ao na A) (hB : StrsIn w bo nb B) (hna : na ≤ 9223372036854775807) (hnb : nb ≤ 9223372036854775807) :
    Calls Tryz.prog 4 #[.slice ao na ca, .slice bo nb cb] w fun e w' => ZzEnd na nb e ∧ w = w' := by
  have HA := Lib.hid hA
  have HB := Lib.hid hB
  clear hA hB
  by_cases h1 : 1048576 < (na : Int)
  · go_enter Tryz.func4, Tryz.ntmps4
    go_wp2
    go_ret
    exact ⟨Or.inl rfl, rfl⟩
  go_enter Tryz.func4, Tryz.ntmps4
  go_wp2
  go_loop [5, 6] (fun m i => ∃ (k : Nat) (q : Int), k ≤ na ∧ i = .int .i64 k ∧ m = .int .i64 q) (fun _ i => na - (intOf i).toNat)
  case atStart => exact ⟨0, _, Nat.zero_le _, rfl, rfl⟩
  case round =>
    obtain ⟨k, q, hk, rfl, rfl⟩ := hrel
    by_cases hkn : k < na
    · obtain ⟨b, off, rfl, hb, hc⟩ := HA.out (by omega)
      have hc' := hc k hkn
      clear hc
      go_wp2
      · go_ret
        exact ⟨Or.inl rfl, rfl⟩
      · go_ret
        exact ⟨Or.inl rfl, rfl⟩
      · go_round
        case rel => exact ⟨k + 1, _, by omega, by go_num, rfl⟩
        case measure => simp [intOf]; omega
    · by_cases h2 : 1048576 < (nb : Int)
      · go_wp2
        go_ret
        exact ⟨Or.inl rfl, rfl⟩
      go_wp2
      · go_ret
        exact ⟨Or.inl rfl, rfl⟩
      go_loop [5, 7] (fun m i => ∃ (k : Nat) (q : Int), k ≤ nb ∧ i = .int .i64 k ∧ m = .int .i64 q) (fun _ i => nb - (intOf i).toNat)
      case atStart => exact ⟨0, _, Nat.zero_le _, rfl, rfl⟩
      case round =>
        obtain ⟨k2, q2, hk2, rfl, rfl⟩ := hrel
        by_cases hkn2 : k2 < nb
        · obtain ⟨b, off, rfl, hb, hc⟩ := HB.out (by omega)
          have hc' := hc k2 hkn2
          clear hc
          go_wp2
          · go_ret
            exact ⟨Or.inl rfl, rfl⟩
          · go_ret
            exact ⟨Or.inl rfl, rfl⟩
          · go_round
            case rel => exact ⟨k2 + 1, _, by omega, by go_num, rfl⟩
            case measure => simp [intOf]; omega
        · go_wp2
          go_ret
          exact ⟨Or.inr ⟨rfl, by omega, by omega⟩, rfl⟩
end Go.Proofs.YtpllgkakfempeaaGreat

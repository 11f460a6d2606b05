/- Chains of references out of a slice of strings; the bounds; captures. The seat's flags: -reflectrows -leanrows (see REPORT.md, TRANSLATOR). -/
import Derived.Test.YtmfgobmchjbjlaaGreatFmtG1
import Derived.Test.YtmfgobmchjbjlaaGreatFmtEi
namespace Go.Proofs.YtmfgobmchjbjlaaGreatFmt
open Go.RowKit
def AllAscii (S : Nat → ByteArray) (k : Nat) : Prop := ∀ i, i < k → AsciiS (S i)
theorem allascii_step {S : Nat → ByteArray} {k : Nat} (h : AllAscii S k) (hk : AsciiS (S k)) : AllAscii S (k + 1) := fun i hi => by
  by_cases e : i = k
  · subst e; exact hk
  · exact h i (by omega)
set_option maxHeartbeats 1000000 in
set_option maxRecDepth 100000 in
theorem chain_any (w : World) (ao : Option Addr) (n cap : Nat) (S : Nat → ByteArray) (hS : StrsIn w ao n S) (hZ : SizedTo S n) (hA : AllAscii S n) (hn : n ≤ 1048576) :
    Calls Tryz.prog 16 #[.slice ao n cap, .bool true] w fun e w' => ∃ q, e = .returned (.pointer q) ∧ Building w w' n 0 S q := by
  have HS := Lib.hid hS
  have HZ := Lib.hid hZ
  have HA := Lib.hid hA
  clear hS hZ hA
  go_enter Tryz.func16, Tryz.ntmps16
  go_wp2_with go_in
  go_loopw [5, 6] (fun sq i wr => ∃ (k : Nat) (x : Int) (q : Option Addr), k ≤ n ∧ x + 1 = (k : Int) ∧ sq = .pointer q ∧ i = .int .i64 x ∧ Hid (Building w wr n k S q)) (fun _ i _ => (intOf i + 1).toNat)
  case atStart => exact ⟨n, (n : Int) - 1, none, Nat.le_refl _, by omega, rfl, by first | rfl | go_num, building_start w n S⟩
  case round =>
    obtain ⟨k4, x4, q4, hk4, hx4, rfl, rfl, HBD⟩ := hrel
    cases k4 with
    | succ k4 =>
      obtain rfl : x4 = (k4 : Int) := by omega
      have hkn4 : k4 < n := by omega
      obtain ⟨b, off, hvo, hb, hc⟩ := HS.out (by omega)
      subst hvo
      have hc' : wr.cell? ⟨b, off + k4, none⟩ = some (.string (S k4)) := (HBD.out.2.cell hb).trans (hc k4 hkn4)
      clear hc hx4
      go_wp2_with go_in
      go_roundw
      case rel => exact ⟨k4, (k4 : Int) - 1, _, by omega, by omega, rfl, by go_num, building_step HBD.out hkn4 (by have := HZ.out k4 hkn4; omega) (HA.out k4 hkn4)⟩
      case measure => simp [intOf]
    | zero =>
      obtain rfl : x4 = -1 := by omega
      go_wp2_with fail
      go_ret
      exact ⟨_, rfl, HBD.out⟩
end Go.Proofs.YtmfgobmchjbjlaaGreatFmt

/- The law's own helpers over a slice of strings that came in: the bounds, the copy. The seat's flags: -reflectrows -leanrows (see REPORT.md, TRANSLATOR). -/
import Derived.Test.YtmfgobmchjbjlaaGreatFmtEg
import Derived.Test.YtmfgobmchjbjlaaGreatFmtEd
import Derived.Lib.SliceRun
namespace Go.Proofs.YtmfgobmchjbjlaaGreatFmt
open Go.RowKit
def StrsIn (w : World) (ao : Option Addr) (n : Nat) (S : Nat → ByteArray) : Prop :=
  0 < n → ∃ b off, ao = some ⟨b, off, none⟩ ∧ b < w.heap.size ∧ ∀ i, i < n → w.cell? ⟨b, off + i, none⟩ = some (.string (S i))
theorem StrsIn.carry {w w' : World} {ao : Option Addr} {n : Nat} {S : Nat → ByteArray} (h : StrsIn w ao n S) (hb : Below w.heap.size w w') : StrsIn w' ao n S := fun h0 => by
  obtain ⟨b, off, h1, h2, h3⟩ := h h0
  exact ⟨b, off, h1, Nat.lt_of_lt_of_le h2 hb.size, fun i hi => (hb.cell h2).trans (h3 i hi)⟩
def SizedTo (S : Nat → ByteArray) (k : Nat) : Prop := ∀ i, i < k → (S i).size ≤ 1048576
theorem sized_zero (S : Nat → ByteArray) : SizedTo S 0 := fun i hi => absurd hi (Nat.not_lt_zero i)
theorem sized_step {S : Nat → ByteArray} {k : Nat} (h : SizedTo S k) (hk : ¬ (1048576 : Int) < ((S k).size : Int)) : SizedTo S (k + 1) := fun i hi => by
  by_cases e : i = k
  · subst e; omega
  · exact h i (by omega)
def ZzEnd (n : Nat) (S : Nat → ByteArray) (e : Ending) : Prop := e = .returned (.bool false) ∨ (e = .returned (.bool true) ∧ n ≤ 1048576 ∧ SizedTo S n)
set_option maxRecDepth 100000 in
theorem zz_any (w : World) (ao : Option Addr) (n cap : Nat) (S : Nat → ByteArray) (hS : StrsIn w ao n S) (hn : n ≤ 9223372036854775807) :
    Calls Tryz.prog 18 #[.slice ao n cap] w fun e w' => ZzEnd n S e ∧ w = w' := by
  have HS := Lib.hid hS
  clear hS
  by_cases h1 : 1048576 < (n : Int)
  · go_enter Tryz.func18, Tryz.ntmps18
    go_wp2
    go_ret
    exact ⟨Or.inl rfl, rfl⟩
  go_enter Tryz.func18, Tryz.ntmps18
  go_wp2
  go_loop [3, 4] (fun m i => ∃ (k : Nat) (q : Int), k ≤ n ∧ i = .int .i64 k ∧ m = .int .i64 q ∧ Hid (SizedTo S k)) (fun _ i => n - (intOf i).toNat)
  case atStart => exact ⟨0, _, Nat.zero_le _, rfl, rfl, sized_zero S⟩
  case round =>
    obtain ⟨k, q, hk, rfl, rfl, HZ⟩ := hrel
    by_cases hkn : k < n
    · obtain ⟨b, off, rfl, hb, hc⟩ := HS.out (by omega)
      have hc' := hc k hkn
      clear hc
      go_wp2
      · go_ret
        exact ⟨Or.inl rfl, rfl⟩
      · go_ret
        exact ⟨Or.inl rfl, rfl⟩
      · have hsz : ¬ (1048576 : Int) < ((S k).size : Int) := by omega
        go_round
        case rel => exact ⟨k + 1, _, by omega, by go_num, rfl, sized_step HZ.out hsz⟩
        case measure => simp [intOf]; omega
    · go_wp2
      go_ret
      exact ⟨Or.inr ⟨rfl, by omega, fun i hi => HZ.out i (by omega)⟩, rfl⟩
/-- What the copy gives. -/
def Cloned (w : World) (n : Nat) (S : Nat → ByteArray) (e : Ending) (w' : World) : Prop := ∃ vo vc, e = .returned (.slice vo n vc) ∧ StrsIn w' vo n S ∧ Below w.heap.size w w'
def Copying (w wr : World) (n k : Nat) (S : Nat → ByteArray) : Prop := wr.rowIs w.heap.size 9 n (fun i => if i < k then .string (S i) else .string ⟨#[]⟩) ∧ Below w.heap.size w wr
theorem copying_start (w : World) (n : Nat) (S : Nat → ByteArray) : Copying w (w.alloc (.cells (madeCells #[.string ⟨#[]⟩] n) 9)) n 0 S :=
  ⟨(World.rowIs_made w _ n 9).congr (fun i _ => by simp), (Below.refl _ w).alloc (Nat.le_refl _) _⟩
theorem copying_step {w wr : World} {n k : Nat} {S : Nat → ByteArray} (h : Copying w wr n k S) : Copying w (wr.setCell ⟨w.heap.size, k, none⟩ (.string (S k))) n (k + 1) S := by
  refine ⟨(h.1.set k _).congr (fun i _ => ?_), h.2.setCell (Nat.le_refl _) _⟩
  by_cases hi : i = k
  · subst hi; simp
  · by_cases hl : i < k
    · have : i < k + 1 := by omega
      simp [hi, hl, this]
    · have : ¬ i < k + 1 := by omega
      simp [hi, hl, this]
theorem copying_end {w wr : World} {n k : Nat} {S : Nat → ByteArray} (h : Copying w wr n k S) (hk : n ≤ k) : Cloned w n S (.returned (.slice (some ⟨w.heap.size, 0, none⟩) n n)) wr :=
  ⟨_, _, rfl, fun _ => ⟨_, 0, rfl, h.1.lt, fun i hi => by rw [Nat.zero_add, h.1.cell hi, if_pos (by omega)]⟩, h.2⟩
theorem clone_nil (w : World) (S : Nat → ByteArray) : Calls Tryz.prog 21 #[.slice none 0 0] w fun e w' => Cloned w 0 S e w' := by
  have hq := fun (w : World) => Lib.run_eql_slice_nil (P := Tryz.prog) w 43 9 none 0 0 0 0 Tryz.underlying43
  go_enter Tryz.func21, Tryz.ntmps21
  go_wp2
  go_ret
  exact ⟨none, 0, rfl, fun h => absurd h (Nat.lt_irrefl 0), Below.refl _ _⟩
set_option maxRecDepth 100000 in
theorem clone_some (w : World) (a : Addr) (n cap : Nat) (S : Nat → ByteArray) (h : StrsIn w (some a) n S) (hn : n ≤ 1048576) : Calls Tryz.prog 21 #[.slice (some a) n cap] w fun e w' => Cloned w n S e w' := by
  have hq := fun (w : World) => Lib.run_eql_slice_nil (P := Tryz.prog) w 43 9 (some a) n cap 0 0 Tryz.underlying43
  have hm := run_make_row' (P := Tryz.prog) 43 9 (.string ⟨#[]⟩) 16 Tryz.underlying43 infoStr rfl .i64 .i64 n (by omega) (by omega)
  have H := Lib.hid h
  clear h
  go_enter Tryz.func21, Tryz.ntmps21
  go_wp2
  go_loopw [4] (fun i wr => ∃ k : Nat, k ≤ n ∧ i = .int .i64 k ∧ Hid (Copying w wr n k S)) (fun i _ => n - (intOf i).toNat)
  case atStart => exact ⟨0, Nat.zero_le _, rfl, copying_start w n S⟩
  case round =>
    obtain ⟨k, hk, rfl, HC⟩ := hrel
    by_cases hkn : k < n
    · obtain ⟨b, off, ha, hb, hc⟩ := H.out (by omega)
      have ha' : a = ⟨b, off, none⟩ := by simpa using ha
      subst ha'
      have hcr : wr.cell? ⟨b, off + k, none⟩ = some (.string (S k)) := (HC.out.2.cell hb).trans (hc k hkn)
      have hc2 := HC.out.1.cell hkn
      have hf2 := HC.out.1.frozen k
      have hbb : ¬ b = w.heap.size := by omega
      clear hc ha
      go_wp2
      go_roundw
      case rel => exact ⟨k + 1, by omega, by go_num, copying_step HC.out⟩
      case measure => simp [intOf]; omega
    · go_wp2
      go_ret
      exact copying_end HC.out (by omega)
theorem clone_any (w : World) (ao : Option Addr) (n cap : Nat) (S : Nat → ByteArray) (h0 : ao = none → n = 0 ∧ cap = 0) (h : StrsIn w ao n S) (hn : n ≤ 1048576) : Calls Tryz.prog 21 #[.slice ao n cap] w fun e w' => Cloned w n S e w' := by
  cases ao with
  | none =>
    obtain ⟨rfl, rfl⟩ := h0 rfl
    exact clone_nil w S
  | some a => exact clone_some w a n cap S h hn
end Go.Proofs.YtmfgobmchjbjlaaGreatFmt

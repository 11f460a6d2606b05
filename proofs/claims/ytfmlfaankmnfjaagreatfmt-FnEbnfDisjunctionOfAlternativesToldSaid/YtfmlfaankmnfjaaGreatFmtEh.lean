/- The law's own helpers over a slice of strings that came in: the bounds, the copy; a reference's text as the law reckons it. The seat's flags: -reflectrows -leanrows (see REPORT.md, TRANSLATOR). -/
import Derived.Test.YtfmlfaankmnfjaaGreatFmtEgi
import Derived.Test.YtfmlfaankmnfjaaGreatFmtEd
import Derived.Lib.SliceRun
namespace Go.Proofs.YtfmlfaankmnfjaaGreatFmt
open Go.RowKit
def StrsIn (w : World) (ao : Option Addr) (n : Nat) (S : Nat → ByteArray) : Prop :=
  0 < n → ∃ b off, ao = some ⟨b, off, none⟩ ∧ b < w.heap.size ∧ ∀ i, i < n → w.cell? ⟨b, off + i, none⟩ = some (.string (S i))
theorem StrsIn.carry {w w' : World} {ao : Option Addr} {n : Nat} {S : Nat → ByteArray} (h : StrsIn w ao n S) (hb : Below w.heap.size w w') : StrsIn w' ao n S := fun h0 => by
  obtain ⟨b, off, h1, h2, h3⟩ := h h0
  exact ⟨b, off, h1, Nat.lt_of_lt_of_le h2 hb.size, fun i hi => (hb.cell h2).trans (h3 i hi)⟩
def SizedTo (S : Nat → ByteArray) (k : Nat) : Prop := ∀ i, i < k → (S i).size ≤ 1048576
theorem sized_zero (S : Nat → ByteArray) : SizedTo S 0 := fun i hi => absurd hi (Nat.not_lt_zero i)
theorem sized_step {S : Nat → ByteArray} {k : Nat} (h : SizedTo S k) (hk : ¬ (1048576 : Int) < ((S k).size : Int)) : SizedTo S (k + 1) := fun i hi => by
  by_cases e : i = k
  · subst e; omega
  · exact h i (by omega)
def ZzEnd (n : Nat) (S : Nat → ByteArray) (e : Ending) : Prop := e = .returned (.bool false) ∨ (e = .returned (.bool true) ∧ n ≤ 1048576 ∧ SizedTo S n)
/-- What the copy gives. -/
def Cloned (w : World) (n : Nat) (S : Nat → ByteArray) (e : Ending) (w' : World) : Prop := ∃ vo vc, e = .returned (.slice vo n vc) ∧ StrsIn w' vo n S ∧ Below w.heap.size w w'
def Copying (w wr : World) (n k : Nat) (S : Nat → ByteArray) : Prop := wr.rowIs w.heap.size 9 n (fun i => if i < k then .string (S i) else .string ⟨#[]⟩) ∧ Below w.heap.size w wr
theorem copying_start (w : World) (n : Nat) (S : Nat → ByteArray) : Copying w (w.alloc (.cells (madeCells #[.string ⟨#[]⟩] n) 9)) n 0 S :=
  ⟨(World.rowIs_made w _ n 9).congr (fun i _ => by simp), (Below.refl _ w).alloc (Nat.le_refl _) _⟩
theorem copying_step {w wr : World} {n k : Nat} {S : Nat → ByteArray} (h : Copying w wr n k S) : Copying w (wr.setCell ⟨w.heap.size, k, none⟩ (.string (S k))) n (k + 1) S := by
  refine ⟨(h.1.set k _).congr (fun i _ => ?_), h.2.setCell (Nat.le_refl _) _⟩
  by_cases hi : i = k
  · subst hi; simp
  · by_cases hl : i < k
    · have : i < k + 1 := by omega
      simp [hi, hl, this]
    · have : ¬ i < k + 1 := by omega
      simp [hi, hl, this]
theorem copying_end {w wr : World} {n k : Nat} {S : Nat → ByteArray} (h : Copying w wr n k S) (hk : n ≤ k) : Cloned w n S (.returned (.slice (some ⟨w.heap.size, 0, none⟩) n n)) wr :=
  ⟨_, _, rfl, fun _ => ⟨_, 0, rfl, h.1.lt, fun i hi => by rw [Nat.zero_add, h.1.cell hi, if_pos (by omega)]⟩, h.2⟩
theorem clone_nil (w : World) (S : Nat → ByteArray) : Calls Tryz.prog 7 #[.slice none 0 0] w fun e w' => Cloned w 0 S e w' := by
  have hq := fun (w : World) => Lib.run_eql_slice_nil (P := Tryz.prog) w 38 9 none 0 0 0 0 Tryz.underlying38
  go_enter Tryz.func7, Tryz.ntmps7
  go_wp2
  go_ret
  exact ⟨none, 0, rfl, fun h => absurd h (Nat.lt_irrefl 0), Below.refl _ _⟩
set_option maxRecDepth 100000 in
theorem clone_some (w : World) (a : Addr) (n cap : Nat) (S : Nat → ByteArray) (h : StrsIn w (some a) n S) (hn : n ≤ 1048576) : Calls Tryz.prog 7 #[.slice (some a) n cap] w fun e w' => Cloned w n S e w' := by
  have hq := fun (w : World) => Lib.run_eql_slice_nil (P := Tryz.prog) w 38 9 (some a) n cap 0 0 Tryz.underlying38
  have hm := run_make_row' (P := Tryz.prog) 38 9 (.string ⟨#[]⟩) 16 Tryz.underlying38 infoStr rfl .i64 .i64 n (by omega) (by omega)
  have H := Lib.hid h
  clear h
  go_enter Tryz.func7, Tryz.ntmps7
  go_wp2
  go_loopw [4] (fun i wr => ∃ k : Nat, k ≤ n ∧ i = .int .i64 k ∧ Hid (Copying w wr n k S)) (fun i _ => n - (intOf i).toNat)
  case atStart => exact ⟨0, Nat.zero_le _, rfl, copying_start w n S⟩
  case round =>
    obtain ⟨k, hk, rfl, HC⟩ := hrel
    by_cases hkn : k < n
    · obtain ⟨b, off, ha, hb, hc⟩ := H.out (by omega)
      have ha' : a = ⟨b, off, none⟩ := by simpa using ha
      subst ha'
      have hcr : wr.cell? ⟨b, off + k, none⟩ = some (.string (S k)) := (HC.out.2.cell hb).trans (hc k hkn)
      have hc2 := HC.out.1.cell hkn
      have hf2 := HC.out.1.frozen k
      have hbb : ¬ b = w.heap.size := by omega
      clear hc ha
      go_wp2
      go_roundw
      case rel => exact ⟨k + 1, by omega, by go_num, copying_step HC.out⟩
      case measure => simp [intOf]; omega
    · go_wp2
      go_ret
      exact copying_end HC.out (by omega)
theorem clone_any (w : World) (ao : Option Addr) (n cap : Nat) (S : Nat → ByteArray) (h0 : ao = none → n = 0 ∧ cap = 0) (h : StrsIn w ao n S) (hn : n ≤ 1048576) : Calls Tryz.prog 7 #[.slice ao n cap] w fun e w' => Cloned w n S e w' := by
  cases ao with
  | none =>
    obtain ⟨rfl, rfl⟩ := h0 rfl
    exact clone_nil w S
  | some a => exact clone_some w a n cap S h hn
theorem cat_lt {L : ByteArray} (h : L.size ≤ 1099511627776) : ¬ ((⟨#[60]⟩ : ByteArray).size + L.size > 9223372036854775807) := by
  have : (⟨#[60]⟩ : ByteArray).size = 1 := rfl
  omega
theorem cat_gt {L : ByteArray} (h : L.size ≤ 1099511627776) : ¬ (((⟨#[60]⟩ : ByteArray) ++ L).size + (⟨#[62]⟩ : ByteArray).size > 9223372036854775807) := by
  have : (⟨#[60]⟩ : ByteArray).size = 1 := rfl
  have : (⟨#[62]⟩ : ByteArray).size = 1 := rfl
  rw [ByteArray.size_append]; omega
theorem lowTxt_size (s : ByteArray) : (lowTxt s).size = s.size := by
  show (Lib.toLowerA s.data.toList).toArray.size = s.size
  rw [List.size_toArray, size_low]
theorem ref_text (s : ByteArray) (w : World) (hs : s.size ≤ 4194304) : Calls Tryz.prog 15 #[.string s] w fun e w' => e = .returned (.string (refTxt s)) ∧ Below w.heap.size w w' := by
  have k1 := cat_lt (L := lowTxt s) (by rw [lowTxt_size]; omega)
  have k2 := cat_gt (L := lowTxt s) (by rw [lowTxt_size]; omega)
  go_enter Tryz.func15, Tryz.ntmps15
  go_wp2_with fail
  refine (low_any s w hs).mono ?_
  rintro e w2 ⟨rfl, hb⟩
  have HB := Lib.hid hb
  clear hb
  go_wp2_with fail
  go_ret
  exact ⟨rfl, HB.out⟩
end Go.Proofs.YtfmlfaankmnfjaaGreatFmt

/- The law's own helpers over strings: the ASCII lower-casing, the test for an identifier, the bounds, the copy of a slice of strings. The seat's flags: -reflectrows -leanrows (see REPORT.md, TRANSLATOR). -/
import Derived.Test.YtfmlfaankmnfjaaGreatFmtRows
import Derived.WalkKit
import Derived.WalkSpells
import Derived.Outline
import Derived.OneCell
import Derived.Deep.OwnRows
import Derived.Below
import Derived.Lib.Hide
import Derived.Lib.Case
import Derived.Laws.IdiomStrings
import Derived.Deep.Strs
namespace Go.Proofs.YtfmlfaankmnfjaaGreatFmt
open Go.RowKit
def AsciiS (s : ByteArray) : Prop := ∀ (j : Nat) (b : UInt8), s.data.toList[j]? = some b → b.toNat < 128
def lowTxt (s : ByteArray) : ByteArray := ⟨(Lib.toLowerA s.data.toList).toArray⟩
theorem infoU8 : (Tryz.prog.info? 5).map (fun i => (i.zero, i.size, i.bytes)) = some (some (.int .u8 0), 1, 1) := by kernel_rfl
theorem infoStr : (Tryz.prog.info? 9).map (fun i => (i.zero, i.size, i.bytes)) = some (some (.string ⟨#[]⟩), 1, 16) := by kernel_rfl
def Lowering (w wr : World) (s : ByteArray) (k : Nat) : Prop :=
  wr.rowIs w.heap.size 5 s.size (fun i => .int .u8 (if i < k then ((Lib.lowerB (s.data.toList.getD i 0)).toNat : Int) else 0)) ∧ Below w.heap.size w wr
theorem lowering_start (w : World) (s : ByteArray) : Lowering w (w.alloc (.cells (madeCells #[.int .u8 0] s.size) 5)) s 0 :=
  ⟨(World.rowIs_made w _ s.size 5).congr (fun i _ => by simp), (Below.refl _ w).alloc (Nat.le_refl _) _⟩
theorem lowering_step {w wr : World} {s : ByteArray} {k : Nat} {x : Int} (h : Lowering w wr s k) (hx : x = ((Lib.lowerB (s.data.toList.getD k 0)).toNat : Int)) : Lowering w (wr.setCell ⟨w.heap.size, k, none⟩ (.int .u8 x)) s (k + 1) := by
  refine ⟨(h.1.set k _).congr (fun i _ => ?_), h.2.setCell (Nat.le_refl _) _⟩
  by_cases hi : i = k
  · subst hi; simp [hx]
  · by_cases hl : i < k
    · have : i < k + 1 := by omega
      simp [hi, hl, this]
    · have : ¬ i < k + 1 := by omega
      simp [hi, hl, this]
theorem size_low (s : ByteArray) : (Lib.toLowerA s.data.toList).length = s.size := by rw [Lib.toLowerA, List.length_map]; rfl
theorem lowering_end {w wr : World} {s : ByteArray} {k : Nat} (h : Lowering w wr s k) (hk : s.size ≤ k) :
    (convert 35 9 (.slice (some ⟨w.heap.size, 0, none⟩) s.size s.size)).run Tryz.prog wr = .ok (.string (lowTxt s)) wr := by
  have := run_convert_bytes_back (P := Tryz.prog) wr 35 9 5 ⟨w.heap.size, 0, none⟩ s.size (Lib.toLowerA s.data.toList) Tryz.underlying35 Tryz.underlying5 Tryz.underlying9 (fun j hj => by
    have hj2 : j < s.size := by rw [size_low] at hj; exact hj
    have ha : (⟨w.heap.size, 0, none⟩ : Addr).add j = ⟨w.heap.size, j, none⟩ := by unfold Addr.add; split <;> simp_all
    rw [ha, h.1.cell hj2]
    have hjk : j < k := by omega
    simp only [hjk, if_true, Lib.toLowerA, List.getElem_map, Array.getElem_toList, List.getD_eq_getElem?_getD, Array.getElem?_toList]
    rw [Array.getElem?_eq_getElem (xs := s.data) hj2]
    rfl)
  rw [size_low] at this
  exact this
theorem byte_at (s : ByteArray) (k : Nat) (h : k < s.size) : s[k]'h = s.data.toList.getD k 0 := by
  have h2 : k < s.data.toList.length := h
  rw [List.getD_eq_getElem?_getD, List.getElem?_eq_getElem h2]
  rfl
theorem low_up (b : UInt8) (h1 : (65 : Int) ≤ b.toNat) (h2 : (b.toNat : Int) ≤ 90) : (b.toNat : Int) + 32 = ((Lib.lowerB b).toNat : Int) := by
  have h3 : Lib.isUpperB b = true := by simp [Lib.isUpperB, UInt8.le_iff_toNat_le]; omega
  rw [Lib.lowerB, if_pos h3, UInt8.toNat_add]
  have : (32 : UInt8).toNat = 32 := rfl
  omega
theorem low_no (b : UInt8) (h : ¬ ((65 : Int) ≤ b.toNat ∧ (b.toNat : Int) ≤ 90)) : (b.toNat : Int) = ((Lib.lowerB b).toNat : Int) := by
  have h3 : Lib.isUpperB b = false := by simp [Lib.isUpperB, UInt8.le_iff_toNat_le]; omega
  rw [Lib.lowerB, if_neg (by rw [h3]; exact Bool.false_ne_true)]
set_option maxRecDepth 100000 in
theorem low_any (s : ByteArray) (w : World) (hs : s.size ≤ 4194304) : Calls Tryz.prog 21 #[.string s] w fun e w' => e = .returned (.string (lowTxt s)) ∧ Below w.heap.size w w' := by
  have hm := run_make_row' (P := Tryz.prog) 35 5 (.int .u8 0) 1 Tryz.underlying35 infoU8 rfl .i64 .i64 s.size (by omega) (by omega)
  go_enter Tryz.func21, Tryz.ntmps21
  go_wp2
  go_loopw [4] (fun i wr => ∃ k : Nat, k ≤ s.size ∧ i = .int .i64 k ∧ Hid (Lowering w wr s k)) (fun i _ => s.size - (intOf i).toNat)
  case atStart => exact ⟨0, Nat.zero_le _, rfl, lowering_start w s⟩
  case round =>
    obtain ⟨k, hk, rfl, HC⟩ := hrel
    by_cases hkn : k < s.size
    · have hc2 := HC.out.1.cell hkn
      have hf2 := HC.out.1.frozen k
      have hb := byte_at s k hkn
      have HB := Lib.hid hb
      clear hb
      by_cases h1 : (65 : Int) ≤ ((s[k]'hkn).toNat : Int)
      · by_cases h2 : ((s[k]'hkn).toNat : Int) ≤ 90
        · go_wp2
          go_roundw
          case rel => exact ⟨k + 1, by omega, by go_num, lowering_step HC.out (by rw [← HB.out]; exact low_up _ h1 h2)⟩
          case measure => simp [intOf]; omega
        · go_wp2
          go_roundw
          case rel => exact ⟨k + 1, by omega, by go_num, lowering_step HC.out (by rw [← HB.out]; exact low_no _ (by omega))⟩
          case measure => simp [intOf]; omega
      · go_wp2
        go_roundw
        case rel => exact ⟨k + 1, by omega, by go_num, lowering_step HC.out (by rw [← HB.out]; exact low_no _ (by omega))⟩
        case measure => simp [intOf]; omega
    · have hcv := lowering_end HC.out (by omega)
      go_wp2
      go_ret
      exact ⟨rfl, HC.out.2⟩
def IdEnd (s : ByteArray) (e : Ending) : Prop := e = .returned (.bool false) ∨ (e = .returned (.bool true) ∧ AsciiS s)
def AsciiTo (s : ByteArray) (k : Nat) : Prop := ∀ (j : Nat) (b : UInt8), j < k → s.data.toList[j]? = some b → b.toNat < 128
theorem ascii_step {s : ByteArray} {k : Nat} (h : AsciiTo s k) (hk : k < s.size) (hb : ((s[k]'hk).toNat : Int) < 128) : AsciiTo s (k + 1) := by
  intro j b hj hjb
  by_cases e : j = k
  · subst e
    rw [byte_at s j hk] at hb
    have : s.data.toList.getD j 0 = b := by rw [List.getD_eq_getElem?_getD, hjb]; rfl
    rw [this] at hb
    omega
  · exact h j b (by omega) hjb
theorem ascii_all {s : ByteArray} {k : Nat} (h : AsciiTo s k) (hk : s.size ≤ k) : AsciiS s := fun j b hjb => h j b (by
  have hl := (List.getElem?_eq_some_iff.1 hjb).1
  have : s.data.toList.length = s.size := rfl
  omega) hjb
end Go.Proofs.YtfmlfaankmnfjaaGreatFmt

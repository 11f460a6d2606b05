/- ASCII text, byte by byte. The seat's flags: -reflectrows -leanrows (see REPORT.md, TRANSLATOR). -/
import Derived.Test.YtiofodmlgneieaaGreatFmtRows
import Derived.WalkKit
import Derived.Lib.Hide
namespace Go.Proofs.YtiofodmlgneieaaGreatFmt
open Go.RowKit
def AsciiS (s : ByteArray) : Prop := ∀ (j : Nat) (b : UInt8), s.data.toList[j]? = some b → b.toNat < 128
def AsciiTo (s : ByteArray) (k : Nat) : Prop := ∀ (j : Nat) (b : UInt8), j < k → s.data.toList[j]? = some b → b.toNat < 128
theorem byte_at (s : ByteArray) (k : Nat) (h : k < s.size) : s[k]'h = s.data.toList.getD k 0 := by
  have h2 : k < s.data.toList.length := h
  rw [List.getD_eq_getElem?_getD, List.getElem?_eq_getElem h2]
  rfl
theorem ascii_step {s : ByteArray} {k : Nat} (h : AsciiTo s k) (hk : k < s.size) (hb : ((s[k]'hk).toNat : Int) < 128) : AsciiTo s (k + 1) := by
  intro j b hj hjb
  by_cases e : j = k
  · subst e
    rw [byte_at s j hk] at hb
    have : s.data.toList.getD j 0 = b := by rw [List.getD_eq_getElem?_getD, hjb]; rfl
    rw [this] at hb
    omega
  · exact h j b (by omega) hjb
theorem ascii_all {s : ByteArray} {k : Nat} (h : AsciiTo s k) (hk : s.size ≤ k) : AsciiS s := fun j b hjb => h j b (by
  have hl := (List.getElem?_eq_some_iff.1 hjb).1
  have : s.data.toList.length = s.size := rfl
  omega) hjb
theorem ascii_at {s : ByteArray} (h : AsciiS s) (k : Nat) (hk : k < s.size) : (s[k]'hk).toNat < 128 := h k _ (by
  have h2 : k < s.data.toList.length := hk
  rw [List.getElem?_eq_getElem h2]
  rfl)
theorem getD_eq {s : ByteArray} {k : Nat} (hk : k < s.size) {n : Nat} (hn : n < 256) (h : ((s[k]'hk).toNat : Int) = (n : Int)) : s.data.toList.getD k 0 = UInt8.ofNat n := by
  rw [← byte_at s k hk]
  apply UInt8.toNat_inj.1
  have h3 : (UInt8.ofNat n).toNat = n := by simp; omega
  omega
end Go.Proofs.YtiofodmlgneieaaGreatFmt

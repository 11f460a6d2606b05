/- What stands in a text from a place on: the plain part of reading a quoted text back. Plain Lean: no program. -/
import Derived.Test.YtiofodmlgneieaaGreatFmtQ1
namespace Go.Proofs.YtiofodmlgneieaaGreatFmt
open Go.Extern
/-- k hex digits of r stand in q from i on. -/
def HexAt (q : ByteArray) (i r k : Nat) : Prop := ∀ j (hj : i + j < q.size), j < k → (q[i + j]'hj) = FmtText.digit false (r / 16 ^ (k - 1 - j) % 16)
theorem hex_step (r k m : Nat) (h : m < k) : r / 16 ^ (k - m) * 16 + r / 16 ^ (k - 1 - m) % 16 = r / 16 ^ (k - (m + 1)) := by
  obtain ⟨t, rfl⟩ : ∃ t, k = m + 1 + t := ⟨k - (m + 1), by omega⟩
  have e1 : m + 1 + t - m = t + 1 := by omega
  have e2 : m + 1 + t - 1 - m = t := by omega
  have e3 : m + 1 + t - (m + 1) = t := by omega
  rw [e1, e2, e3, Nat.pow_succ, ← Nat.div_div_eq_div_mul]
  omega
/-- From place i on, q reads t. -/
def Rest (q : ByteArray) (i : Nat) (t : List UInt8) : Prop := i ≤ q.size ∧ q.data.toList.drop i = t
theorem Rest.size {q : ByteArray} {i : Nat} {t : List UInt8} (h : Rest q i t) : q.size = i + t.length := by
  have h1 := congrArg List.length h.2
  rw [List.length_drop] at h1
  have h2 : q.data.toList.length = q.size := rfl
  have := h.1
  omega
theorem Rest.skip {q : ByteArray} {i : Nat} {a t : List UInt8} (h : Rest q i (a ++ t)) : Rest q (i + a.length) t := by
  have hs := h.size
  rw [List.length_append] at hs
  refine ⟨by omega, ?_⟩
  rw [← List.drop_drop, h.2, List.drop_left]
theorem Rest.get {q : ByteArray} {i : Nat} {a t : List UInt8} (h : Rest q i (a ++ t)) (j : Nat) (hj : j < a.length) (hq : i + j < q.size) : (q[i + j]'hq) = a[j]'hj := by
  have h1 : q.data.toList[i + j]? = some (a[j]'hj) := by
    rw [← List.getElem?_drop, h.2, List.getElem?_append_left hj, List.getElem?_eq_getElem hj]
  have h2 : i + j < q.data.toList.length := hq
  rw [List.getElem?_eq_getElem h2] at h1
  exact Option.some.inj h1
theorem Rest.lt {q : ByteArray} {i : Nat} {a t : List UInt8} (h : Rest q i (a ++ t)) (j : Nat) (hj : j < a.length) : i + j < q.size := by
  have hs := h.size
  rw [List.length_append] at hs
  omega
theorem hexDigits_len (r : Nat) : ∀ k, (FmtText.hexDigits r k).length = k
  | 0 => rfl
  | k + 1 => by rw [FmtText.hexDigits, List.length_cons, hexDigits_len r k]
theorem hexDigits_get (r : Nat) : ∀ (k j : Nat) (h : j < (FmtText.hexDigits r k).length), (FmtText.hexDigits r k)[j]'h = FmtText.digit false (r / 16 ^ (k - 1 - j) % 16)
  | 0, j, h => absurd h (Nat.not_lt_zero j)
  | k + 1, 0, _ => by simp [FmtText.hexDigits]
  | k + 1, j + 1, h => by
    have h' : j < (FmtText.hexDigits r k).length := by simpa [FmtText.hexDigits] using h
    have e : k + 1 - 1 - (j + 1) = k - 1 - j := by omega
    have := hexDigits_get r k j h'
    simp only [FmtText.hexDigits, List.getElem_cons_succ, this, e]
theorem Rest.hex {q : ByteArray} {i r k : Nat} {t : List UInt8} (h : Rest q i (FmtText.hexDigits r k ++ t)) : HexAt q i r k := fun j hj hk => by
  have hk2 : j < (FmtText.hexDigits r k).length := by rw [hexDigits_len]; exact hk
  rw [h.get j hk2 hj, hexDigits_get]
theorem Rest.hexroom {q : ByteArray} {i r k : Nat} {t : List UInt8} (h : Rest q i (FmtText.hexDigits r k ++ t)) : i + k ≤ q.size := by
  have hs := h.size
  rw [List.length_append, hexDigits_len] at hs
  omega
end Go.Proofs.YtiofodmlgneieaaGreatFmt

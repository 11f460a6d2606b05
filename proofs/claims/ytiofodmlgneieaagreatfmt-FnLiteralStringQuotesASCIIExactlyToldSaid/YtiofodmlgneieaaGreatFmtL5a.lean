/- What quoting gives of ASCII text, as a buffer that grows byte by byte. The seat's flags: -reflectrows -leanrows (see REPORT.md, TRANSLATOR). -/
import Derived.Test.YtiofodmlgneieaaGreatFmtA0
import Derived.Test.YtiofodmlgneieaaGreatFmtL1
import Derived.Test.YtiofodmlgneieaaGreatFmtQ1
import Derived.Test.YtiofodmlgneieaaGreatFmtBf
namespace Go.Proofs.YtiofodmlgneieaaGreatFmt
open Go.RowKit Go.Extern
def qBuf (s : ByteArray) (k : Nat) : List UInt8 := 34 :: (s.data.toList.take k).flatMap escByte
theorem qbuf_step {s : ByteArray} {k : Nat} (h : k < s.size) {news : List UInt8} (hn : escByte (s.data.toList.getD k 0) = news) : qBuf s k ++ news = qBuf s (k + 1) := by
  have h2 : k < s.data.toList.length := h
  rw [qBuf, qBuf, flat_take _ k h2, hn]
  rfl
theorem qbuf_len {s : ByteArray} (ha : AsciiS s) (k : Nat) (h : k ≤ s.size) : (qBuf s k).length ≤ 10 * k + 1 := by
  have hl : s.data.toList.length = s.size := rfl
  have h2 : (s.data.toList.take k).length = k := by rw [List.length_take]; omega
  have hq := quote_ascii (s.data.toList.take k) (fun j b hj => by
    rw [List.getElem?_take] at hj
    split at hj
    · exact ha j b hj
    · cases hj)
  have hle := FmtText.quote_length_le (s.data.toList.take k)
  rw [hq, h2] at hle
  simp only [qBuf, List.length_cons, List.length_append] at hle ⊢
  omega
theorem qbuf_end {s : ByteArray} (ha : AsciiS s) {k : Nat} (h : s.size ≤ k) : (⟨(qBuf s k ++ [34]).toArray⟩ : ByteArray) = quoteTxt s := by
  have hl : s.data.toList.length = s.size := rfl
  rw [quoteTxt, quote_ascii _ ha, qBuf, List.take_of_length_le (by omega)]
  rfl
end Go.Proofs.YtiofodmlgneieaaGreatFmt

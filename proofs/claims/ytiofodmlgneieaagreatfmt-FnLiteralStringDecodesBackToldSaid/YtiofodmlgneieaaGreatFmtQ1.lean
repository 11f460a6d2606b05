/- What fmt's '%q' gives, step by step: each rune of the text is one raw rune or one escape, and which bytes it stands for; of ASCII text byte by byte. Plain Lean: no program. -/
import Derived.Stop.FmtQuoteTie
import Derived.Lib.MapLaws
import Derived.Lib.TrimAscii
namespace Go.Proofs.YtiofodmlgneieaaGreatFmt
open Go.Extern Go.Extern.FmtText
def enc (r : Nat) : List UInt8 := (Utf8.encode (r : Int)).data.toList
def ValidR (r : Nat) : Prop := r < 55296 ∨ (57344 ≤ r ∧ r ≤ 1114111)
/-- The escapes of one letter: what stands behind the backslash, and the byte. -/
def escTab : List (UInt8 × UInt8) := [(34, 34), (92, 92), (97, 7), (98, 8), (102, 12), (110, 10), (114, 13), (116, 9), (118, 11)]
/-- One step of the quoted text and the bytes that it stands for. -/
def StepOf (txt bytes : List UInt8) : Prop :=
  (∃ c : UInt8, txt = [c] ∧ bytes = [c] ∧ 32 ≤ c.toNat ∧ c.toNat ≤ 126 ∧ c.toNat ≠ 34 ∧ c.toNat ≠ 92) ∨
  (∃ r : Nat, txt = enc r ∧ bytes = enc r ∧ 128 ≤ r ∧ ValidR r) ∨
  (∃ e v : UInt8, txt = [92, e] ∧ bytes = [v] ∧ (e, v) ∈ escTab) ∨
  (∃ b : Nat, b < 256 ∧ txt = 92 :: 120 :: hexDigits b 2 ∧ bytes = [UInt8.ofNat b]) ∨
  (∃ r : Nat, txt = 92 :: 117 :: hexDigits r 4 ∧ bytes = enc r ∧ 128 ≤ r ∧ r < 65536 ∧ ValidR r) ∨
  (∃ r : Nat, txt = 92 :: 85 :: hexDigits r 8 ∧ bytes = enc r ∧ 65536 ≤ r ∧ r ≤ 1114111)
theorem enc_def (r : Nat) : enc r = (Utf8.encode (r : Int)).data.toList := by rw [enc]
theorem enc_ascii (r : Nat) (h : r < 128) : enc r = [UInt8.ofNat r] := by rw [enc_def, enc1 r h]
theorem printable (r : Nat) (h : r < 128) : isPrint r = decide (32 ≤ r ∧ r ≤ 126) := by
  unfold isPrint
  rw [if_pos (by omega)]
  have h1 : decide (161 ≤ r) = false := decide_eq_false (by omega)
  rw [Bool.eq_iff_iff]
  simp [h1]
theorem esc_step (r : Nat) (hv : ValidR r) : StepOf (escRune 34 false r) (enc r) := by
  unfold escRune
  by_cases hq : r = 34
  · subst hq
    right; right; left
    exact ⟨34, 34, by decide, by decide, by decide⟩
  by_cases hb : r = 92
  · subst hb
    right; right; left
    exact ⟨92, 92, by decide, by decide, by decide⟩
  have e0 : (r == 34 || r == 92) = false := by simp [hq, hb]
  rw [if_neg (by rw [e0]; exact Bool.false_ne_true)]
  simp only [Bool.false_eq_true, if_false]
  by_cases hp : isPrint r = true
  · rw [if_pos hp]
    by_cases h8 : r < 128
    · left
      rw [printable r h8] at hp
      have hp' := of_decide_eq_true hp
      have ht : (UInt8.ofNat r).toNat = r := by simp; omega
      rw [← enc_def]
      exact ⟨UInt8.ofNat r, enc_ascii r h8, enc_ascii r h8, by omega, by omega, by omega, by omega⟩
    · rw [← enc_def]
      right; left
      exact ⟨r, rfl, rfl, by omega, hv⟩
  · rw [if_neg hp]
    by_cases h8 : r < 128
    · rw [printable r h8] at hp
      have hp' : r < 32 ∨ r = 127 := by
        have : ¬ (32 ≤ r ∧ r ≤ 126) := fun h => hp (decide_eq_true h)
        omega
      by_cases a7 : r = 7
      · subst a7; right; right; left; exact ⟨97, 7, by decide, by decide, by decide⟩
      by_cases a8 : r = 8
      · subst a8; right; right; left; exact ⟨98, 8, by decide, by decide, by decide⟩
      by_cases a12 : r = 12
      · subst a12; right; right; left; exact ⟨102, 12, by decide, by decide, by decide⟩
      by_cases a10 : r = 10
      · subst a10; right; right; left; exact ⟨110, 10, by decide, by decide, by decide⟩
      by_cases a13 : r = 13
      · subst a13; right; right; left; exact ⟨114, 13, by decide, by decide, by decide⟩
      by_cases a9 : r = 9
      · subst a9; right; right; left; exact ⟨116, 9, by decide, by decide, by decide⟩
      by_cases a11 : r = 11
      · subst a11; right; right; left; exact ⟨118, 11, by decide, by decide, by decide⟩
      have hc : (r < 32 || r == 127) = true := by simpa using hp'
      right; right; right; left
      refine ⟨r, by omega, ?_, enc_ascii r h8⟩
      simp only [beq_iff_eq, a7, a8, a12, a10, a13, a9, a11, if_false, hc, if_true]
    · have n7 : (r == 7) = false := by simp; omega
      have n8 : (r == 8) = false := by simp; omega
      have n12 : (r == 12) = false := by simp; omega
      have n10 : (r == 10) = false := by simp; omega
      have n13 : (r == 13) = false := by simp; omega
      have n9 : (r == 9) = false := by simp; omega
      have n11 : (r == 11) = false := by simp; omega
      have hc : (r < 32 || r == 127) = false := by simp; omega
      have hval : Utf8.valid (r : Int) = true := by unfold ValidR at hv; simp [Utf8.valid]; omega
      simp only [n7, n8, n12, n10, n13, n9, n11, hc, hval, Bool.not_true, Bool.false_eq_true, if_false]
      by_cases h16 : r < 65536
      · rw [if_pos h16]
        right; right; right; right; left
        exact ⟨r, rfl, rfl, by omega, h16, hv⟩
      · rw [if_neg h16]
        right; right; right; right; right
        exact ⟨r, rfl, rfl, by omega, by unfold ValidR at hv; omega⟩
theorem enc_of (r : Nat) : enc r = Lib.encodeRune (r : Int) := by
  have h := encode_eq r
  rw [← enc_def] at h
  have e : ∀ l : List UInt8, (nums l).map (fun x => x.toNat.toUInt8) = l := by
    intro l
    induction l with
    | nil => rfl
    | cons a t ih =>
      simp only [nums, List.map_cons] at ih ⊢
      rw [ih, Lib.toByte _ a rfl]
  rw [Lib.encodeRune, ← h, e]
theorem decode_drop (l : List UInt8) (pos : Nat) : Utf8.decode (arr l) pos = Lib.decodeL (l.drop pos) := by
  refine (decode_extract (arr l) pos).symm.trans ?_
  have e : (arr l).extract pos (arr l).size = ⟨(l.drop pos).toArray⟩ := by
    apply ByteArray.ext
    apply Array.ext'
    have h : (l.drop pos).take (l.length - pos) = l.drop pos := List.take_of_length_le (by simp)
    simp [ByteArray.data_extract, arr, ByteArray.size, h]
  rw [e, Lib.decodeL]
theorem decode_valid (l : List UInt8) : ValidR (Lib.decodeL l).1 := by
  have h := Lib.rune_valid ⟨l.toArray⟩
  have h2 : Lib.validRune ((Lib.decodeL l).1 : Int) = true := h
  rw [← valid_eq] at h2
  simp [Utf8.valid] at h2
  unfold ValidR
  omega
/-- One step of quoteFrom. -/
theorem quote_step (l : List UInt8) (fuel pos : Nat) (h : pos < l.length) :
    ∃ (w : Nat) (txt bytes : List UInt8), 0 < w ∧ pos + w ≤ l.length ∧ quoteFrom 34 false (arr l) (fuel + 1) pos = txt ++ quoteFrom 34 false (arr l) fuel (pos + w) ∧ l.take (pos + w) = l.take pos ++ bytes ∧ StepOf txt bytes := by
  have hs : pos < (arr l).size := h
  have hne : l.drop pos ≠ [] := by simp; omega
  have hd := decode_drop l pos
  have hw := Lib.decodeL_width (l.drop pos)
  have hle := Lib.decodeL_le (l.drop pos) hne
  rw [List.length_drop] at hle
  have htk : ∀ k, l.take (pos + k) = l.take pos ++ (l.drop pos).take k := fun k => by rw [List.take_add]
  refine ⟨(Lib.decodeL (l.drop pos)).2, _, (l.drop pos).take (Lib.decodeL (l.drop pos)).2, by omega, by omega, by rw [quoteFrom, if_pos hs, hd], htk _, ?_⟩
  by_cases he : (Lib.decodeL (l.drop pos)).1 = 65533 ∧ (Lib.decodeL (l.drop pos)).2 = 1
  · have hc : ((Lib.decodeL (l.drop pos)).2 == 1 && (Lib.decodeL (l.drop pos)).1 == 65533) = true := by simp [he.1, he.2]
    rw [if_pos hc, he.2]
    right; right; right; left
    have hg : (arr l).get! pos = l[pos]'h := by
      show l.toArray[pos]! = l[pos]
      rw [getElem!_pos l.toArray pos (by simpa using h)]
      rfl
    refine ⟨((arr l).get! pos).toNat, by have := ((arr l).get! pos).toNat_lt; omega, rfl, ?_⟩
    have hb : ∀ b : UInt8, UInt8.ofNat b.toNat = b := fun b => by simp
    rw [hg, hb, List.drop_eq_getElem_cons h]
    rfl
  · have hc : ¬ ((Lib.decodeL (l.drop pos)).2 == 1 && (Lib.decodeL (l.drop pos)).1 == 65533) = true := by
      simp
      intro h1 h2
      exact he ⟨h2, h1⟩
    rw [if_neg hc, ← Lib.encode_decode (l.drop pos) hne he, ← enc_of]
    exact esc_step _ (decode_valid _)
theorem quote_end (l : List UInt8) (fuel pos : Nat) (h : l.length ≤ pos) : quoteFrom 34 false (arr l) fuel pos = [] := by
  cases fuel with
  | zero => rfl
  | succ f =>
    have hs : ¬ pos < (arr l).size := by show ¬ pos < l.length; omega
    rw [quoteFrom, if_neg hs]
/-- One byte of ASCII, quoted. -/
def escByte (b : UInt8) : List UInt8 := escRune 34 false b.toNat
theorem quoteFrom_ascii (l : List UInt8) (ha : ∀ (j : Nat) (b : UInt8), l[j]? = some b → b.toNat < 128) : ∀ fuel pos, l.length ≤ fuel + pos → quoteFrom 34 false (arr l) fuel pos = (l.drop pos).flatMap escByte
  | 0, pos, h => by
    rw [quote_end l 0 pos (by omega), List.drop_of_length_le (by omega)]
    rfl
  | fuel + 1, pos, h => by
    by_cases hp : pos < l.length
    · have hs : pos < (arr l).size := hp
      have hb := ha pos (l[pos]'hp) (List.getElem?_eq_getElem hp)
      have hd : Utf8.decode (arr l) pos = ((l[pos]'hp).toNat, 1) := by
        rw [decode_drop, List.drop_eq_getElem_cons hp]
        exact Lib.decodeL_ascii _ _ hb
      have hn : ((l[pos]'hp).toNat == 65533) = false := by simp; omega
      rw [quoteFrom, if_pos hs, hd]
      simp only [hn, Bool.and_false, Bool.false_eq_true, if_false]
      rw [quoteFrom_ascii l ha fuel (pos + 1) (by omega), List.drop_eq_getElem_cons hp]
      rfl
    · rw [quote_end l _ pos (by omega), List.drop_of_length_le (by omega)]
      rfl
/-- ASCII text, quoted: byte by byte. -/
theorem quote_ascii (l : List UInt8) (ha : ∀ (j : Nat) (b : UInt8), l[j]? = some b → b.toNat < 128) : FmtText.quote false l = 34 :: (l.flatMap escByte ++ [34]) := by
  rw [FmtText.quote, quoteFrom_ascii l ha l.length 0 (by omega), List.drop_zero]
theorem escByte_raw (b : UInt8) (h1 : 32 ≤ b.toNat) (h2 : b.toNat ≤ 126) (h3 : b.toNat ≠ 34) (h4 : b.toNat ≠ 92) : escByte b = [b] := by
  unfold escByte escRune
  have e0 : (b.toNat == 34 || b.toNat == 92) = false := by simp [h3, h4]
  have e1 : isPrint b.toNat = true := by rw [printable _ (by omega)]; exact decide_eq_true ⟨h1, h2⟩
  rw [if_neg (by rw [e0]; exact Bool.false_ne_true)]
  simp only [Bool.false_eq_true, if_false, e1, if_true]
  have := enc1 b.toNat (by omega)
  rw [this]
  simp
theorem escByte_quote (b : UInt8) (h : b.toNat = 34 ∨ b.toNat = 92) : escByte b = [92, b] := by
  have hb : b = 34 ∨ b = 92 := by
    rcases h with h | h
    · exact .inl (UInt8.toNat_inj.1 h)
    · exact .inr (UInt8.toNat_inj.1 h)
  rcases hb with rfl | rfl <;> decide
theorem flat_take (l : List UInt8) (k : Nat) (h : k < l.length) : (l.take (k + 1)).flatMap escByte = (l.take k).flatMap escByte ++ escByte (l.getD k 0) := by
  rw [List.take_add_one, List.flatMap_append]
  simp [h]
end Go.Proofs.YtiofodmlgneieaaGreatFmt

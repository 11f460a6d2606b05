/- n025_27.FnLookaheadStringOverAlternatives: the walk. Conditions: fmt's text is told by the model's FmtText; the dump is cut with -reflectrows -leanrows. -/
import Derived.Test.YtiofodmlgneieaaGreatFmtL8
namespace Go.Proofs.YtiofodmlgneieaaGreatFmt
open Go.RowKit Go.Extern.Stop Go.Stop Go.Extern Go.Kit
def altsTxt (a b : ByteArray) : ByteArray := altTxt [quoteTxt a, quoteTxt b]
theorem alts_text (a b : ByteArray) : altsTxt a b = quoteTxt a ++ ⟨#[32, 124, 32]⟩ ++ quoteTxt b := by
  show quoteTxt a ++ (⟨#[32, 124, 32]⟩ ++ quoteTxt b) = _
  exact ByteArray.ext (by simp [ByteArray.data_append])
theorem alts_size (a b : ByteArray) : (altsTxt a b).size = (quoteTxt a).size + 3 + (quoteTxt b).size := by
  have z : (⟨#[32, 124, 32]⟩ : ByteArray).size = 3 := rfl
  rw [alts_text, ByteArray.size_append, ByteArray.size_append, z]
/-- A disjunction of two literals prints its two texts. -/
theorem pr_alts (F : Interp) (W : World) (D G la lb c : Nat) (a b : ByteArray) (hF : F.told.answers W.tape) (ha : a.size ≤ 1048576) (hb : b.size ≤ 1048576)
    (hD : D < W.heap.size) (hG : G < W.heap.size) (hla : la < W.heap.size) (hlb : lb < W.heap.size)
    (cD : W.cell? ⟨D, 0, none⟩ = some (.slice (some ⟨G, 0, none⟩) 2 c)) (cG0 : W.cell? ⟨G, 0, none⟩ = some (.iface 47 (.pointer (some ⟨la, 0, none⟩)))) (cG1 : W.cell? ⟨G, 1, none⟩ = some (.iface 47 (.pointer (some ⟨lb, 0, none⟩))))
    (ca : W.cell? ⟨la, 0, none⟩ = some (.string a)) (cb : W.cell? ⟨lb, 0, none⟩ = some (.string b)) :
    Pr W.heap.size W true (.iface 57 (.pointer (some ⟨D, 0, none⟩))) (altsTxt a b) := by
  refine pr_disj _ _ [quoteTxt a, quoteTxt b] (some ⟨D, 0, none⟩) (by simp) ⟨D, G, c, fun i => if i = 0 then .iface 47 (.pointer (some ⟨la, 0, none⟩)) else .iface 47 (.pointer (some ⟨lb, 0, none⟩)), rfl, hD, hG, cD, fun i hi => ?_⟩
  have h2 : i = 0 ∨ i = 1 := by simp at hi; omega
  rcases h2 with rfl | rfl
  · exact ⟨cG0, pr_lit F _ _ false la a hF ca hla (by omega)⟩
  · exact ⟨cG1, pr_lit F _ _ false lb b hF cb hlb (by omega)⟩
set_option maxRecDepth 100000 in
theorem lookalts (F : Interp) (w : World) (a b : ByteArray) (neg : Bool) (hF : F.told.answers w.tape) (ha : a.size ≤ 1048576) (hb : b.size ≤ 1048576) :
    Calls Tryz.prog 17 #[.string a, .string b, .bool neg] w fun e w' => e = .returned (.string (lookTxt neg (altsTxt a b))) ∧ Below w.heap.size w w' := by
  have HF := Lib.hid hF
  have HA := Lib.hid ha
  have HB := Lib.hid hb
  clear hF ha hb
  go_enter Tryz.func17, Tryz.ntmps17
  go_wp2_with fail
  refine (str_look _ _ (lookTxt neg (altsTxt a b)) (pr_look _ _ true neg (w.heap.size + 4) (.iface 57 (.pointer (some ⟨w.heap.size + 3, 0, none⟩))) _ (by go_simp) (by go_simp) (by simp)
    (pr_alts F _ (w.heap.size + 3) (w.heap.size + 2) w.heap.size (w.heap.size + 1) 2 a b (by exact HF.out) HA.out HB.out (by simp) (by first | (simp; done) | (simp; omega)) (by first | (simp; done) | (simp; omega)) (by first | (simp; done) | (simp; omega)) (by go_simp) (by go_simp) (by go_simp) (by go_simp) (by go_simp)))
    (by rw [look_size, alts_size]; have h1 := quoteTxt_size a; have h2 := quoteTxt_size b; have h3 := HA.out; have h4 := HB.out; omega)).mono ?_
  rintro e w2 ⟨rfl, hb⟩
  have HBB : Hid (Below w.heap.size w w2) := ((((((Below.refl _ w).alloc (Nat.le_refl _) _).alloc (by simp) _).alloc (by simp; omega) _).alloc (by simp; omega) _).alloc (by simp; omega) _).trans (hb.mono (by simp; omega))
  clear hb
  go_wp2_with fail
  go_ret
  exact ⟨rfl, HBB.out⟩
def Zz2b (a b : ByteArray) (e : Ending) : Prop := e = .returned (.bool false) ∨ (e = .returned (.bool true) ∧ a.size ≤ 1048576 ∧ b.size ≤ 1048576)
theorem zz_alts (s tt : ByteArray) (neg : Bool) (w : World) (hs : s.size ≤ 9223372036854775807) (ht : tt.size ≤ 9223372036854775807) : Calls Tryz.prog 13 #[.string s, .string tt, .bool neg] w fun e w' => Zz2b s tt e ∧ w = w' := by
  by_cases h : 1048576 < s.size
  · have h1 : (1048576 : Int) < (s.size : Int) := by omega
    go_enter Tryz.func13, Tryz.ntmps13
    go_wp2
    go_ret
    exact ⟨Or.inl rfl, rfl⟩
  have h1 : ¬ (1048576 : Int) < (s.size : Int) := by omega
  by_cases h' : 1048576 < tt.size
  · have h2 : (1048576 : Int) < (tt.size : Int) := by omega
    go_enter Tryz.func13, Tryz.ntmps13
    go_wp2
    go_ret
    exact ⟨Or.inl rfl, rfl⟩
  have h2 : ¬ (1048576 : Int) < (tt.size : Int) := by omega
  by_cases h'' : 1048576 < s.size + tt.size
  · have h3 : (1048576 : Int) < (s.size : Int) + (tt.size : Int) := by omega
    go_enter Tryz.func13, Tryz.ntmps13
    go_wp2
    go_ret
    exact ⟨Or.inl rfl, rfl⟩
  have h3 : ¬ (1048576 : Int) < (s.size : Int) + (tt.size : Int) := by omega
  go_enter Tryz.func13, Tryz.ntmps13
  go_wp2
  go_ret
  exact ⟨Or.inr ⟨rfl, by omega, by omega⟩, rfl⟩
theorem alt_cats (neg : Bool) {a b : ByteArray} (ha : a.size ≤ 100000000) (hb : b.size ≤ 100000000) :
    ¬ ((openTxt neg).size + a.size > 9223372036854775807) ∧ ¬ ((openTxt neg ++ a).size + (⟨#[32, 124, 32]⟩ : ByteArray).size > 9223372036854775807) ∧
    ¬ ((openTxt neg ++ a ++ ⟨#[32, 124, 32]⟩).size + b.size > 9223372036854775807) ∧ ¬ ((openTxt neg ++ a ++ ⟨#[32, 124, 32]⟩ ++ b).size + (⟨#[41]⟩ : ByteArray).size > 9223372036854775807) := by
  have z3 : (⟨#[41]⟩ : ByteArray).size = 1 := rfl
  have z4 : (⟨#[32, 124, 32]⟩ : ByteArray).size = 3 := rfl
  have := open_size neg
  simp only [ByteArray.size_append]
  omega
theorem alts_look (neg : Bool) (a b : ByteArray) : lookTxt neg (altsTxt a b) = openTxt neg ++ quoteTxt a ++ ⟨#[32, 124, 32]⟩ ++ quoteTxt b ++ ⟨#[41]⟩ := by
  have h : lookTxt neg (altsTxt a b) = openTxt neg ++ altsTxt a b ++ ⟨#[41]⟩ := rfl
  rw [h, alts_text]
  exact ByteArray.ext (by simp [ByteArray.data_append, Array.append_assoc])
set_option maxHeartbeats 1000000 in
set_option maxRecDepth 100000 in
theorem walkalts (F : Interp) (w : World) (a b : ByteArray) (neg : Bool) (hF : F.told.answers w.tape) (ha : a.size ≤ 9223372036854775807) (hb : b.size ≤ 9223372036854775807) :
    Calls Tryz.prog 5 #[.string a, .string b, .bool neg] w fun e w' => e = .returned (.bool true) ∧ Below w.heap.size w w' := by
  have HF := Lib.hid hF
  clear hF
  go_enter Tryz.func5, Tryz.ntmps5
  go_wp2_with fail
  refine (zz_alts a b neg w ha hb).mono ?_
  rintro e _ ⟨hz, rfl⟩
  rcases hz with rfl | ⟨rfl, h1, h2⟩
  · go_wp2_with fail
    go_ret
    exact ⟨rfl, Below.refl _ _⟩
  have hA : ¬ (1048576 : Int) < (a.size : Int) := by omega
  have hB : ¬ (1048576 : Int) < (b.size : Int) := by omega
  obtain ⟨k1, k2, k3, k4⟩ := alt_cats neg (a := quoteTxt a) (b := quoteTxt b) (by have := quoteTxt_size a; omega) (by have := quoteTxt_size b; omega)
  go_wp2_with fail
  refine (print_any a _ (by omega)).mono ?_
  rintro e _ ⟨hi, rfl⟩
  rcases hi with rfl | ⟨rfl, hp⟩
  · go_wp2_with fail
    go_ret
    exact ⟨rfl, Below.refl _ _⟩
  have HP := Lib.hid hp
  clear hp
  go_wp2_with fail
  refine (print_any b _ (by omega)).mono ?_
  rintro e _ ⟨hi, rfl⟩
  rcases hi with rfl | ⟨rfl, hp⟩
  · go_wp2_with fail
    go_ret
    exact ⟨rfl, Below.refl _ _⟩
  have HPB := Lib.hid hp
  clear hp
  go_wp2_with fail
  refine (open_text neg _).mono ?_
  rintro e _ ⟨rfl, rfl⟩
  go_wp2_with fail
  refine (quote27 a _ h1 HP.out).mono ?_
  rintro e w1 ⟨rfl, hb1⟩
  have HB1 := Lib.hid hb1
  have HF1 : Hid (F.told.answers w1.tape) := by
    show F.told.answers w1.tape
    rw [hb1.tape]
    exact HF.out
  clear hb1
  go_wp2_with fail
  refine (quote27 b w1 h2 HPB.out).mono ?_
  rintro e w2 ⟨rfl, hb2⟩
  have HB2 : Hid (Below w.heap.size w w2) := HB1.out.trans (hb2.mono HB1.out.size)
  have HF2 : Hid (F.told.answers w2.tape) := by
    show F.told.answers w2.tape
    rw [hb2.tape]
    exact HF1.out
  clear hb2
  go_wp2_with fail
  refine (lookalts F w2 a b neg HF2.out h1 h2).mono ?_
  rintro e w3 ⟨rfl, hb3⟩
  have HB3 : Hid (Below w.heap.size w w3) := HB2.out.trans (hb3.mono HB2.out.size)
  clear hb3
  rw [alts_look]
  go_wp2_with fail
  go_ret
  exact ⟨rfl, HB3.out⟩
end Go.Proofs.YtiofodmlgneieaaGreatFmt

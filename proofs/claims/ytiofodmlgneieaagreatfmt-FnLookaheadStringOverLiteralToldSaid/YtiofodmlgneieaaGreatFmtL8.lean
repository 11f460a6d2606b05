/- n025_27: the lookahead's String over a literal and over alternatives: the walks. Conditions: fmt's text is told by the model's FmtText; the dump is cut with -reflectrows -leanrows. -/
import Derived.Test.YtiofodmlgneieaaGreatFmtL6
import Derived.Test.YtiofodmlgneieaaGreatFmtL2
import Derived.Test.YtiofodmlgneieaaGreatFmtLk
import Derived.Test.YtiofodmlgneieaaGreatFmtDj
import Derived.Test.YtiofodmlgneieaaGreatFmtEd
namespace Go.Proofs.YtiofodmlgneieaaGreatFmt
open Go.RowKit Go.Extern.Stop Go.Stop Go.Extern Go.Kit
theorem str_look (w : World) (q : Option Addr) (txt : ByteArray) (hP : Pr w.heap.size w true (.iface 56 (.pointer q)) txt) (hsz : txt.size ≤ 1000000000000) :
    Calls Tryz.prog 27 #[.pointer q] w fun e w' => e = .returned (.string txt) ∧ Below w.heap.size w w' := by
  have HP := Lib.hid hP
  have HS := Lib.hid hsz
  clear hP hsz
  go_enter Tryz.func27, Tryz.ntmps27
  go_wp2_with fail
  refine (ebnf_lookaheadGroup q txt _ HP.out HS.out).mono ?_
  rintro e w2 ⟨rfl, hb⟩
  have HB := Lib.hid hb
  clear hb
  go_wp2_with fail
  go_ret
  exact ⟨rfl, HB.out⟩
def openTxt (neg : Bool) : ByteArray := if neg then ⟨#[40, 63, 33, 32]⟩ else ⟨#[40, 63, 61, 32]⟩
theorem open_text (neg : Bool) (w : World) : Calls Tryz.prog 15 #[.bool neg] w fun e w' => e = .returned (.string (openTxt neg)) ∧ w = w' := by
  cases neg
  · go_enter Tryz.func15, Tryz.ntmps15
    go_wp2
    go_ret
    exact ⟨rfl, rfl⟩
  · go_enter Tryz.func15, Tryz.ntmps15
    go_wp2
    go_ret
    exact ⟨rfl, rfl⟩
theorem open_size (neg : Bool) : (openTxt neg).size = 4 := by cases neg <;> rfl
theorem look_size (neg : Bool) (t : ByteArray) : (lookTxt neg t).size = t.size + 5 := by
  have z3 : (⟨#[41]⟩ : ByteArray).size = 1 := rfl
  have h : lookTxt neg t = openTxt neg ++ t ++ ⟨#[41]⟩ := rfl
  rw [h, ByteArray.size_append, ByteArray.size_append, open_size, z3]
  omega
set_option maxRecDepth 100000 in
theorem looklit (F : Interp) (w : World) (s : ByteArray) (neg : Bool) (hF : F.told.answers w.tape) (hs : s.size ≤ 1048576) :
    Calls Tryz.prog 19 #[.string s, .bool neg] w fun e w' => e = .returned (.string (lookTxt neg (quoteTxt s))) ∧ Below w.heap.size w w' := by
  have HF := Lib.hid hF
  have HS := Lib.hid hs
  clear hF hs
  go_enter Tryz.func19, Tryz.ntmps19
  go_wp2_with fail
  refine (str_look _ _ (lookTxt neg (quoteTxt s)) (pr_look _ _ true neg (w.heap.size + 1) (.iface 47 (.pointer (some ⟨w.heap.size, 0, none⟩))) _ (by go_simp) (by go_simp) (by simp) (pr_lit F _ _ true w.heap.size s (by exact HF.out) (by go_simp) (by simp; omega) (by have := HS.out; omega))) (by rw [look_size]; have h1 := quoteTxt_size s; have h2 := HS.out; omega)).mono ?_
  rintro e w2 ⟨rfl, hb⟩
  have HB : Hid (Below w.heap.size w w2) := (((Below.refl _ w).alloc (Nat.le_refl _) _).alloc (by simp) _).trans (hb.mono (by simp; omega))
  clear hb
  go_wp2_with fail
  go_ret
  exact ⟨rfl, HB.out⟩
def ZzStr (s : ByteArray) (e : Ending) : Prop := e = .returned (.bool false) ∨ (e = .returned (.bool true) ∧ s.size ≤ 1048576)
theorem zz_look (s : ByteArray) (neg : Bool) (w : World) (hs : s.size ≤ 9223372036854775807) : Calls Tryz.prog 18 #[.string s, .bool neg] w fun e w' => ZzStr s e ∧ w = w' := by
  by_cases h : 1048576 < s.size
  · have h1 : (1048576 : Int) < (s.size : Int) := by omega
    go_enter Tryz.func18, Tryz.ntmps18
    go_wp2
    go_ret
    exact ⟨Or.inl rfl, rfl⟩
  · have h1 : ¬ (1048576 : Int) < (s.size : Int) := by omega
    go_enter Tryz.func18, Tryz.ntmps18
    go_wp2
    go_ret
    exact ⟨Or.inr ⟨rfl, by omega⟩, rfl⟩
theorem look_cats (neg : Bool) {q : ByteArray} (h : q.size ≤ 100000000) : ¬ ((openTxt neg).size + q.size > 9223372036854775807) ∧ ¬ ((openTxt neg ++ q).size + (⟨#[41]⟩ : ByteArray).size > 9223372036854775807) := by
  have z3 : (⟨#[41]⟩ : ByteArray).size = 1 := rfl
  have := open_size neg
  rw [ByteArray.size_append]
  omega
set_option maxHeartbeats 1000000 in
set_option maxRecDepth 100000 in
theorem walklook (F : Interp) (w : World) (s : ByteArray) (neg : Bool) (hF : F.told.answers w.tape) (hs : s.size ≤ 9223372036854775807) :
    Calls Tryz.prog 6 #[.string s, .bool neg] w fun e w' => e = .returned (.bool true) ∧ Below w.heap.size w w' := by
  have HF := Lib.hid hF
  clear hF
  go_enter Tryz.func6, Tryz.ntmps6
  go_wp2_with fail
  refine (zz_look s neg w hs).mono ?_
  rintro e _ ⟨hz, rfl⟩
  rcases hz with rfl | ⟨rfl, h1⟩
  · go_wp2_with fail
    go_ret
    exact ⟨rfl, Below.refl _ _⟩
  have hA : ¬ (1048576 : Int) < (s.size : Int) := by omega
  obtain ⟨k1, k2⟩ := look_cats neg (q := quoteTxt s) (by have := quoteTxt_size s; omega)
  go_wp2_with fail
  refine (print_any s _ (by omega)).mono ?_
  rintro e _ ⟨hi, rfl⟩
  rcases hi with rfl | ⟨rfl, hp⟩
  · go_wp2_with fail
    go_ret
    exact ⟨rfl, Below.refl _ _⟩
  have HP := Lib.hid hp
  clear hp
  go_wp2_with fail
  refine (open_text neg _).mono ?_
  rintro e _ ⟨rfl, rfl⟩
  go_wp2_with fail
  refine (quote27 s _ h1 HP.out).mono ?_
  rintro e w1 ⟨rfl, hb1⟩
  have HB1 := Lib.hid hb1
  have HF1 : Hid (F.told.answers w1.tape) := by
    show F.told.answers w1.tape
    rw [hb1.tape]
    exact HF.out
  clear hb1
  go_wp2_with fail
  refine (looklit F w1 s neg HF1.out h1).mono ?_
  rintro e w2 ⟨rfl, hb2⟩
  have HB2 : Hid (Below w.heap.size w w2) := HB1.out.trans (hb2.mono HB1.out.size)
  clear hb2
  have el : lookTxt neg (quoteTxt s) = openTxt neg ++ quoteTxt s ++ ⟨#[41]⟩ := rfl
  rw [el]
  clear el
  go_wp2_with fail
  go_ret
  exact ⟨rfl, HB2.out⟩
end Go.Proofs.YtiofodmlgneieaaGreatFmt

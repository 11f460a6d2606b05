/- n025_45: the literal's String and GoString; FnLiteralGoStringAgreesWithString: the walk. Conditions: fmt's text is told by the model's FmtText; the dump is cut with -reflectrows -leanrows. -/
import Derived.Test.YtiofodmlgneieaaGreatFmtL2
import Derived.Test.YtiofodmlgneieaaGreatFmtEd
namespace Go.Proofs.YtiofodmlgneieaaGreatFmt
open Go.RowKit Go.Extern.Stop Go.Stop Go.Extern Go.Kit
theorem str_literal (w : World) (q : Option Addr) (txt : ByteArray) (hP : Pr w.heap.size w true (.iface 47 (.pointer q)) txt) (hsz : txt.size ≤ 1000000000000) :
    Calls Tryz.prog 23 #[.pointer q] w fun e w' => e = .returned (.string txt) ∧ Below w.heap.size w w' := by
  have HP := Lib.hid hP
  have HS := Lib.hid hsz
  clear hP hsz
  go_enter Tryz.func23, Tryz.ntmps23
  go_wp2_with fail
  refine (ebnf_literal q txt _ HP.out HS.out).mono ?_
  rintro e w2 ⟨rfl, hb⟩
  have HB := Lib.hid hb
  clear hb
  go_wp2_with fail
  go_ret
  exact ⟨rfl, HB.out⟩
def litted (w : World) (s : ByteArray) (t : Int) (tt : ByteArray) : World := w.alloc (.cells #[.string s, .int .i64 t, .string tt] 50)
theorem pr_litted (F : Interp) (w : World) (root : Bool) (s : ByteArray) (t : Int) (tt : ByteArray) (hF : F.told.answers w.tape) (hs : s.size ≤ 4194304) :
    Pr (litted w s t tt).heap.size (litted w s t tt) root (.iface 47 (.pointer (some ⟨w.heap.size, 0, none⟩))) (quoteTxt s) :=
  pr_lit F _ _ root w.heap.size s hF (cell_last w _ _ 0 _ rfl) (by simp [litted]) hs
theorem litstr (F : Interp) (w : World) (s : ByteArray) (t : Int) (tt : ByteArray) (hF : F.told.answers w.tape) (hs : s.size ≤ 1048576) :
    Calls Tryz.prog 10 #[.string s, .int .i64 t, .string tt] w fun e w' => e = .returned (.string (quoteTxt s)) ∧ Below w.heap.size w w' := by
  have HF := Lib.hid hF
  clear hF
  have HS := Lib.hid hs
  clear hs
  go_enter Tryz.func10, Tryz.ntmps10
  go_wp2_with fail
  refine (str_literal (litted w s t tt) _ _ (pr_litted F w true s t tt HF.out (by have := HS.out; omega)) (by have h1 := quoteTxt_size s; have h2 := HS.out; omega)).mono ?_
  rintro e w2 ⟨rfl, hb⟩
  have HB : Hid (Below w.heap.size w w2) := ((Below.refl _ w).alloc (Nat.le_refl _) _).trans (hb.mono (by simp [litted]))
  clear hb
  go_wp2_with fail
  go_ret
  exact ⟨rfl, HB.out⟩
def goFmt : ByteArray := ⟨#[108, 105, 116, 101, 114, 97, 108, 123, 37, 113, 44, 32, 37, 113, 125]⟩
@[go_sem] theorem fmt2q : FmtStop.printed? ⟨#[108, 105, 116, 101, 114, 97, 108, 123, 37, 113, 44, 32, 37, 113, 125]⟩ 2 = some [(0, 113, false), (1, 113, false)] := by kernel_rfl
@[go_sem] theorem fmt2qr (w : World) : (FmtDoors.printed ⟨#[108, 105, 116, 101, 114, 97, 108, 123, 37, 113, 44, 32, 37, 113, 125]⟩ 2).run Tryz.prog w = .ok [(0, 113, false), (1, 113, false)] w := by kernel_rfl
def reading2 (s t : List UInt8) : List (List UInt8) := [[108, 105, 116, 101, 114, 97, 108, 123, 37, 113, 44, 32, 37, 113, 125], shapeS, FmtStop.pack s, shapeS, FmtStop.pack t]
theorem parse2 : (FmtText.parse [108, 105, 116, 101, 114, 97, 108, 123, 37, 113, 44, 32, 37, 113, 125]).map FmtText.glue = some [.lit [108, 105, 116, 101, 114, 97, 108, 123], .verb {} 113, .lit [44, 32], .verb {} 113, .lit [125]] := by rfl
theorem text2 (s t : List UInt8) (hs : s.length < 2 ^ 64) (ht : t.length < 2 ^ 64) : FmtText.text "fmt.Sprintf" (reading2 s t) = some ([108, 105, 116, 101, 114, 97, 108, 123] ++ FmtText.quote false s ++ [44, 32] ++ FmtText.quote false t ++ [125]) := by
  rw [reading2, FmtText.text_sprintf_glued parse2 (FmtText.operands_cons (FmtText.operand_str_at (sh := shapeS) rfl rfl s hs) (FmtText.operands_cons (FmtText.operand_str_at (sh := shapeS) rfl rfl t ht) FmtText.operands_nil))]
  simp [FmtText.render, FmtText.printArg_q_str]
def goTxt (s t : ByteArray) : ByteArray := ⟨#[108, 105, 116, 101, 114, 97, 108, 123]⟩ ++ quoteTxt s ++ ⟨#[44, 32]⟩ ++ quoteTxt t ++ ⟨#[125]⟩
theorem told2 (F : Interp) (s t : ByteArray) (hs : s.size ≤ 4194304) (ht : t.size ≤ 4194304) : FmtStop.textOf (F.told "fmt.Sprintf" (reading2 s.data.toList t.data.toList) 0) = goTxt s t := by
  have hl : s.data.toList.length = s.size := rfl
  have hl2 : t.data.toList.length = t.size := rfl
  have hq := FmtText.quote_length_le s.data.toList
  have hq2 := FmtText.quote_length_le t.data.toList
  have h := told_string F (text2 s.data.toList t.data.toList (by rw [hl]; omega) (by rw [hl2]; omega)) (by simp; omega)
  rw [← textOf_list] at h
  apply ByteArray.ext
  apply Array.ext'
  rw [h]
  simp [goTxt, quoteTxt, ByteArray.data_append]
set_option maxHeartbeats 1000000 in
theorem rows_2q (F : Interp) (s t : ByteArray) (b : Nat) (w : World) (hF : F.told.answers w.tape) (hs : s.size ≤ 4194304) (ht : t.size ≤ 4194304) (hc : w.cell? ⟨b, 0, none⟩ = some (.iface 9 (.string s))) (hc1 : w.cell? ⟨b, 1, none⟩ = some (.iface 9 (.string t))) {R : Value → World → Prop}
    (h : R (.string (goTxt s t)) w.drew) :
    Rows Tryz.prog FmtCalls.turnsRow (FmtCalls.save 0 0 (.slice (some ⟨b, 0, none⟩) 2 2) ⟨#[108, 105, 116, 101, 114, 97, 108, 123, 37, 113, 44, 32, 37, 113, 125]⟩ [] [(0, 113, false), (1, 113, false)]) w R := by
  have hF' := answers_open hF
  refine rows_value nextTurns (v := .string (goTxt s t)) (w' := w.drew) ?_ h
  rw [← told2 F s t hs ht]
  go_simp
  first | done | exact ⟨rfl, rfl⟩ | rfl
set_option maxHeartbeats 1000000 in
set_option maxRecDepth 100000 in
theorem goString_any (F : Interp) (w : World) (l : Nat) (s : ByteArray) (t : Int) (tt : ByteArray) (hF : F.told.answers w.tape) (hs : s.size ≤ 1048576) (ht : tt.size ≤ 1048576) (hl : LitAt w l s t tt) :
    Calls Tryz.prog 22 #[.pointer (some ⟨l, 0, none⟩)] w fun e w' => e = .returned (.string (goTxt s tt)) ∧ Below w.heap.size w w' := by
  have c0 : w.cell? ⟨l, 0, none⟩ = some (.string s) := by unfold LitAt at hl; simp [World.cell?, hl]
  have c2 : w.cell? ⟨l, 2, none⟩ = some (.string tt) := by unfold LitAt at hl; simp [World.cell?, hl]
  have HF := Lib.hid hF
  have HS : s.size ≤ 4194304 := by omega
  have HT : tt.size ≤ 4194304 := by omega
  clear hl hF hs ht
  go_enter Tryz.func22, Tryz.ntmps22
  go_wp2_with fail
  go_region_with (with_reducible refine rows_2q F s tt _ _ ?_ HS HT ?_ ?_ ?_; go_loud ((first | exact HF.out | (rw [tape_drew, tape_alloc]; exact HF.out) | (rw [tape_alloc, tape_drew]; exact HF.out)); go_simp; go_simp))
  all_goals (go_wp2_with fail; go_ret; exact ⟨rfl, ((Below.refl _ _).alloc (Nat.le_refl _) _).drew.drew⟩)
theorem golit (F : Interp) (w : World) (s : ByteArray) (t : Int) (tt : ByteArray) (hF : F.told.answers w.tape) (hs : s.size ≤ 1048576) (ht : tt.size ≤ 1048576) :
    Calls Tryz.prog 9 #[.string s, .int .i64 t, .string tt] w fun e w' => e = .returned (.string (goTxt s tt)) ∧ Below w.heap.size w w' := by
  have HF := Lib.hid hF
  clear hF
  go_enter Tryz.func9, Tryz.ntmps9
  go_wp2_with fail
  refine (goString_any F (litted w s t tt) w.heap.size s t tt HF.out hs ht (heap_alloc_new w _)).mono ?_
  rintro e w2 ⟨rfl, hb⟩
  have HB : Hid (Below w.heap.size w w2) := ((Below.refl _ w).alloc (Nat.le_refl _) _).trans (hb.mono (by simp [litted]))
  clear hb
  go_wp2_with fail
  go_ret
  exact ⟨rfl, HB.out⟩
def Zz2 (s t : ByteArray) (e : Ending) : Prop := e = .returned (.bool false) ∨ (e = .returned (.bool true) ∧ s.size ≤ 1048576 ∧ t.size ≤ 1048576)
theorem zz_FnLiteralGoStringAgreesWithString (s : ByteArray) (t : Int) (tt : ByteArray) (w : World) (hs : s.size ≤ 9223372036854775807) (ht : tt.size ≤ 9223372036854775807) : Calls Tryz.prog 8 #[.string s, .int .i64 t, .string tt] w fun e w' => Zz2 s tt e ∧ w = w' := by
  by_cases h : 1048576 < s.size
  · have h1 : (1048576 : Int) < (s.size : Int) := by omega
    go_enter Tryz.func8, Tryz.ntmps8
    go_wp2
    go_ret
    exact ⟨Or.inl rfl, rfl⟩
  have h1 : ¬ (1048576 : Int) < (s.size : Int) := by omega
  by_cases h' : 1048576 < tt.size
  · have h2 : (1048576 : Int) < (tt.size : Int) := by omega
    go_enter Tryz.func8, Tryz.ntmps8
    go_wp2
    go_ret
    exact ⟨Or.inl rfl, rfl⟩
  have h2 : ¬ (1048576 : Int) < (tt.size : Int) := by omega
  by_cases h'' : 1048576 < s.size + tt.size
  · have h3 : (1048576 : Int) < (s.size : Int) + (tt.size : Int) := by omega
    go_enter Tryz.func8, Tryz.ntmps8
    go_wp2
    go_ret
    exact ⟨Or.inl rfl, rfl⟩
  have h3 : ¬ (1048576 : Int) < (s.size : Int) + (tt.size : Int) := by omega
  go_enter Tryz.func8, Tryz.ntmps8
  go_wp2
  go_ret
  exact ⟨Or.inr ⟨rfl, by omega, by omega⟩, rfl⟩
theorem zz_FnLiteralStringQuotesASCIIExactly (s : ByteArray) (t : Int) (tt : ByteArray) (w : World) (hs : s.size ≤ 9223372036854775807) (ht : tt.size ≤ 9223372036854775807) : Calls Tryz.prog 20 #[.string s, .int .i64 t, .string tt] w fun e w' => Zz2 s tt e ∧ w = w' := by
  by_cases h : 1048576 < s.size
  · have h1 : (1048576 : Int) < (s.size : Int) := by omega
    go_enter Tryz.func20, Tryz.ntmps20
    go_wp2
    go_ret
    exact ⟨Or.inl rfl, rfl⟩
  have h1 : ¬ (1048576 : Int) < (s.size : Int) := by omega
  by_cases h' : 1048576 < tt.size
  · have h2 : (1048576 : Int) < (tt.size : Int) := by omega
    go_enter Tryz.func20, Tryz.ntmps20
    go_wp2
    go_ret
    exact ⟨Or.inl rfl, rfl⟩
  have h2 : ¬ (1048576 : Int) < (tt.size : Int) := by omega
  by_cases h'' : 1048576 < s.size + tt.size
  · have h3 : (1048576 : Int) < (s.size : Int) + (tt.size : Int) := by omega
    go_enter Tryz.func20, Tryz.ntmps20
    go_wp2
    go_ret
    exact ⟨Or.inl rfl, rfl⟩
  have h3 : ¬ (1048576 : Int) < (s.size : Int) + (tt.size : Int) := by omega
  go_enter Tryz.func20, Tryz.ntmps20
  go_wp2
  go_ret
  exact ⟨Or.inr ⟨rfl, by omega, by omega⟩, rfl⟩
theorem zz_FnLiteralStringDecodesBack (s : ByteArray) (t : Int) (tt : ByteArray) (w : World) (hs : s.size ≤ 9223372036854775807) (ht : tt.size ≤ 9223372036854775807) : Calls Tryz.prog 11 #[.string s, .int .i64 t, .string tt] w fun e w' => Zz2 s tt e ∧ w = w' := by
  by_cases h : 1048576 < s.size
  · have h1 : (1048576 : Int) < (s.size : Int) := by omega
    go_enter Tryz.func11, Tryz.ntmps11
    go_wp2
    go_ret
    exact ⟨Or.inl rfl, rfl⟩
  have h1 : ¬ (1048576 : Int) < (s.size : Int) := by omega
  by_cases h' : 1048576 < tt.size
  · have h2 : (1048576 : Int) < (tt.size : Int) := by omega
    go_enter Tryz.func11, Tryz.ntmps11
    go_wp2
    go_ret
    exact ⟨Or.inl rfl, rfl⟩
  have h2 : ¬ (1048576 : Int) < (tt.size : Int) := by omega
  by_cases h'' : 1048576 < s.size + tt.size
  · have h3 : (1048576 : Int) < (s.size : Int) + (tt.size : Int) := by omega
    go_enter Tryz.func11, Tryz.ntmps11
    go_wp2
    go_ret
    exact ⟨Or.inl rfl, rfl⟩
  have h3 : ¬ (1048576 : Int) < (s.size : Int) + (tt.size : Int) := by omega
  go_enter Tryz.func11, Tryz.ntmps11
  go_wp2
  go_ret
  exact ⟨Or.inr ⟨rfl, by omega, by omega⟩, rfl⟩
end Go.Proofs.YtiofodmlgneieaaGreatFmt

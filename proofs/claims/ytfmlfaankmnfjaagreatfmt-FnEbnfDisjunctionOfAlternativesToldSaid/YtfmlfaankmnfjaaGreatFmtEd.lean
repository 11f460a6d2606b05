/- ebnf over whatever node prints (group). The seat's flags: -reflectrows -leanrows (see REPORT.md, TRANSLATOR). -/
import Derived.Test.YtfmlfaankmnfjaaGreatFmtEc
namespace Go.Proofs.YtfmlfaankmnfjaaGreatFmt
open Go.RowKit
@[go_sem] theorem mkmap (t : TypeId) (w : World) : (Instr.makeMap t none).run Tryz.prog w = .ok (.map (some w.heap.size)) (w.alloc (.map #[] 0)) := rfl
theorem start_out (w : World) (o1 o2 o4 : Obj) : OutAt ((((w.alloc o1).alloc o2).alloc (.cells #[.string ⟨#[]⟩, .string ⟨#[]⟩] 82)).alloc o4) (w.heap.size + 1 + 1) ⟨#[]⟩ ⟨#[]⟩ := by
  have h1 : ((w.alloc o1).alloc o2).heap.size = w.heap.size + 1 + 1 := by simp
  unfold OutAt
  rw [heap_alloc_old _ _ (by simp), ← h1]
  exact heap_alloc_new _ _
theorem empty_app (t : ByteArray) : (⟨#[]⟩ : ByteArray) ++ t = t := ByteArray.ext (by simp [ByteArray.data_append])
theorem start_size {t : ByteArray} (h : t.size ≤ 1000000000000) : (⟨#[]⟩ : ByteArray).size + t.size ≤ 1099511627776 := by
  have : (⟨#[]⟩ : ByteArray).size = 0 := rfl
  omega
theorem start_below (w : World) (o1 o2 o3 o4 : Obj) : Below w.heap.size w ((((w.alloc o1).alloc o2).alloc o3).alloc o4) :=
  ((((Below.refl _ w).alloc (Nat.le_refl _) o1).alloc (by simp) o2).alloc (by simp; omega) o3).alloc (by simp; omega) o4
set_option maxHeartbeats 2000000 in
set_option maxRecDepth 100000 in
theorem ebnf_group (q : Option Addr) (txt : ByteArray) (w : World) (hP : Pr w.heap.size w true (.iface 122 (.pointer q)) txt) (hsz : txt.size ≤ 1000000000000) :
    Calls Tryz.prog 20 #[.iface 122 (.pointer q)] w fun e w' => e = .returned (.string txt) ∧ Below w.heap.size w w' := by
  have HS := Lib.hid hsz
  clear hsz
  go_enter Tryz.func20, Tryz.ntmps20
  go_wp2_with (go_at_call 28; go_loud (refine (hP _ (w.heap.size + 1 + 1) ⟨#[]⟩ ⟨#[]⟩ _ _ ?_ ?_ ?_ ?_).mono ?_; exact start_below _ _ _ _ _; (show w.heap.size ≤ w.heap.size + 1 + 1; omega); exact start_out _ _ _ _; exact start_size HS.out; rintro e w2 ⟨rfl, hp2, hb2⟩; have q1 := hp2.cell; rw [empty_app] at q1; have HB2 := Lib.hid ((start_below _ _ _ _ _).trans (hb2.mono (by show w.heap.size ≤ w.heap.size + 1 + 1; omega))); clear hp2 hb2))
  all_goals (go_ret; exact ⟨rfl, HB2.out⟩)
set_option maxHeartbeats 2000000 in
set_option maxRecDepth 100000 in
theorem ebnf_capture (q : Option Addr) (txt : ByteArray) (w : World) (hP : Pr w.heap.size w true (.iface 108 (.pointer q)) txt) (hsz : txt.size ≤ 1000000000000) :
    Calls Tryz.prog 20 #[.iface 108 (.pointer q)] w fun e w' => e = .returned (.string txt) ∧ Below w.heap.size w w' := by
  have HS := Lib.hid hsz
  clear hsz
  go_enter Tryz.func20, Tryz.ntmps20
  go_wp2_with (go_at_call 28; go_loud (refine (hP _ (w.heap.size + 1 + 1) ⟨#[]⟩ ⟨#[]⟩ _ _ ?_ ?_ ?_ ?_).mono ?_; exact start_below _ _ _ _ _; (show w.heap.size ≤ w.heap.size + 1 + 1; omega); exact start_out _ _ _ _; exact start_size HS.out; rintro e w2 ⟨rfl, hp2, hb2⟩; have q1 := hp2.cell; rw [empty_app] at q1; have HB2 := Lib.hid ((start_below _ _ _ _ _).trans (hb2.mono (by show w.heap.size ≤ w.heap.size + 1 + 1; omega))); clear hp2 hb2))
  all_goals (go_ret; exact ⟨rfl, HB2.out⟩)
set_option maxHeartbeats 2000000 in
set_option maxRecDepth 100000 in
theorem ebnf_sequence (q : Option Addr) (txt : ByteArray) (w : World) (hP : Pr w.heap.size w true (.iface 46 (.pointer q)) txt) (hsz : txt.size ≤ 1000000000000) :
    Calls Tryz.prog 20 #[.iface 46 (.pointer q)] w fun e w' => e = .returned (.string txt) ∧ Below w.heap.size w w' := by
  have HS := Lib.hid hsz
  clear hsz
  go_enter Tryz.func20, Tryz.ntmps20
  go_wp2_with (go_at_call 28; go_loud (refine (hP _ (w.heap.size + 1 + 1) ⟨#[]⟩ ⟨#[]⟩ _ _ ?_ ?_ ?_ ?_).mono ?_; exact start_below _ _ _ _ _; (show w.heap.size ≤ w.heap.size + 1 + 1; omega); exact start_out _ _ _ _; exact start_size HS.out; rintro e w2 ⟨rfl, hp2, hb2⟩; have q1 := hp2.cell; rw [empty_app] at q1; have HB2 := Lib.hid ((start_below _ _ _ _ _).trans (hb2.mono (by show w.heap.size ≤ w.heap.size + 1 + 1; omega))); clear hp2 hb2))
  all_goals (go_ret; exact ⟨rfl, HB2.out⟩)
set_option maxHeartbeats 2000000 in
set_option maxRecDepth 100000 in
theorem ebnf_disjunction (q : Option Addr) (txt : ByteArray) (w : World) (hP : Pr w.heap.size w true (.iface 41 (.pointer q)) txt) (hsz : txt.size ≤ 1000000000000) :
    Calls Tryz.prog 20 #[.iface 41 (.pointer q)] w fun e w' => e = .returned (.string txt) ∧ Below w.heap.size w w' := by
  have HS := Lib.hid hsz
  clear hsz
  go_enter Tryz.func20, Tryz.ntmps20
  go_wp2_with (go_at_call 28; go_loud (refine (hP _ (w.heap.size + 1 + 1) ⟨#[]⟩ ⟨#[]⟩ _ _ ?_ ?_ ?_ ?_).mono ?_; exact start_below _ _ _ _ _; (show w.heap.size ≤ w.heap.size + 1 + 1; omega); exact start_out _ _ _ _; exact start_size HS.out; rintro e w2 ⟨rfl, hp2, hb2⟩; have q1 := hp2.cell; rw [empty_app] at q1; have HB2 := Lib.hid ((start_below _ _ _ _ _).trans (hb2.mono (by show w.heap.size ≤ w.heap.size + 1 + 1; omega))); clear hp2 hb2))
  all_goals (go_ret; exact ⟨rfl, HB2.out⟩)
set_option maxHeartbeats 2000000 in
set_option maxRecDepth 100000 in
theorem ebnf_literal (q : Option Addr) (txt : ByteArray) (w : World) (hP : Pr w.heap.size w true (.iface 119 (.pointer q)) txt) (hsz : txt.size ≤ 1000000000000) :
    Calls Tryz.prog 20 #[.iface 119 (.pointer q)] w fun e w' => e = .returned (.string txt) ∧ Below w.heap.size w w' := by
  have HS := Lib.hid hsz
  clear hsz
  go_enter Tryz.func20, Tryz.ntmps20
  go_wp2_with (go_at_call 28; go_loud (refine (hP _ (w.heap.size + 1 + 1) ⟨#[]⟩ ⟨#[]⟩ _ _ ?_ ?_ ?_ ?_).mono ?_; exact start_below _ _ _ _ _; (show w.heap.size ≤ w.heap.size + 1 + 1; omega); exact start_out _ _ _ _; exact start_size HS.out; rintro e w2 ⟨rfl, hp2, hb2⟩; have q1 := hp2.cell; rw [empty_app] at q1; have HB2 := Lib.hid ((start_below _ _ _ _ _).trans (hb2.mono (by show w.heap.size ≤ w.heap.size + 1 + 1; omega))); clear hp2 hb2))
  all_goals (go_ret; exact ⟨rfl, HB2.out⟩)
set_option maxHeartbeats 2000000 in
set_option maxRecDepth 100000 in
theorem ebnf_lookaheadGroup (q : Option Addr) (txt : ByteArray) (w : World) (hP : Pr w.heap.size w true (.iface 128 (.pointer q)) txt) (hsz : txt.size ≤ 1000000000000) :
    Calls Tryz.prog 20 #[.iface 128 (.pointer q)] w fun e w' => e = .returned (.string txt) ∧ Below w.heap.size w w' := by
  have HS := Lib.hid hsz
  clear hsz
  go_enter Tryz.func20, Tryz.ntmps20
  go_wp2_with (go_at_call 28; go_loud (refine (hP _ (w.heap.size + 1 + 1) ⟨#[]⟩ ⟨#[]⟩ _ _ ?_ ?_ ?_ ?_).mono ?_; exact start_below _ _ _ _ _; (show w.heap.size ≤ w.heap.size + 1 + 1; omega); exact start_out _ _ _ _; exact start_size HS.out; rintro e w2 ⟨rfl, hp2, hb2⟩; have q1 := hp2.cell; rw [empty_app] at q1; have HB2 := Lib.hid ((start_below _ _ _ _ _).trans (hb2.mono (by show w.heap.size ≤ w.heap.size + 1 + 1; omega))); clear hp2 hb2))
  all_goals (go_ret; exact ⟨rfl, HB2.out⟩)
end Go.Proofs.YtfmlfaankmnfjaaGreatFmt

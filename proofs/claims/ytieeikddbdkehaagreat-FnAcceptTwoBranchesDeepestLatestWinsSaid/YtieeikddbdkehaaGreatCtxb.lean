/- The contracts of MaybeUpdateError and Accept of a parse context. Conditions: the dump is cut with -reflectrows -leanrows; no function of package reflect is called. -/
import Derived.Test.YtieeikddbdkehaaGreatCtxa
namespace Go.Proofs.YtieeikddbdkehaaGreat
open Go.RowKit
theorem cursorC (w : World) (x y z : Int) : Calls Tryz.prog 22 #[.agg #[.int .i64 x, .int .i64 y, .int .i64 z]] w fun e w' => e = .returned (.int .i64 z) ∧ w.alloc (.cells #[.int .i64 x, .int .i64 y, .int .i64 z] 61) = w' := by
  go_enter Tryz.func22, Tryz.ntmps22
  go_wp2
  go_ret
  exact ⟨rfl, rfl⟩
theorem CtxAt.alloc1 {w : World} {B : Nat} {e v : Value} {d look : Int} (h : CtxAt w B e d look v) (o : Obj) : CtxAt (w.alloc o) B e d look v := h.frame (Frame2.alloc w (B + 1) none o) (by omega) (by simp)
theorem CtxAt.drew {w : World} {B : Nat} {e v : Value} {d look : Int} (h : CtxAt w B e d look v) : CtxAt w.drew B e d look v := h
theorem CtxAt.drewN {w : World} {B : Nat} {e v : Value} {d look : Int} (h : CtxAt w B e d look v) (n : Nat) : CtxAt (w.drewN n) B e d look v := by
  unfold CtxAt at *; simpa using h
set_option maxHeartbeats 1000000 in
set_option maxRecDepth 100000 in
theorem maybe_set (w : World) (B : Nat) (e v : Value) (look : Int) (p : Addr) (h : CtxAt w B e 0 look v) :
    Calls Tryz.prog 16 #[.pointer (some ⟨B, 0, none⟩), .pointer (some p)] w fun r w' => r = .returned (.tuple #[]) ∧ CtxAt w' B (.iface 37 (.pointer (some p))) 0 look v ∧ Frame2 w w' B none := by
  have hlt := h.lt
  have hlt1 : B < w.heap.size + 1 := by omega
  have HC := Lib.hid h
  obtain ⟨h0, h1, h2, h3, h4, h5, h6, h7, h8, h9, h10, h11, h12⟩ := h.all
  have f7 := h.free 7
  have f8 := h.free 8
  clear h
  go_enter Tryz.func16, Tryz.ntmps16
  go_wp2
  go_region_with (go_at_call 22; refine (cursorC _ _ _ _).mono ?_; rintro e w' ⟨rfl, rfl⟩)
  all_goals (go_wp2; go_end0; exact ⟨rfl, ((((HC.out.setErr _).setDepth 0).alloc1 _).alloc1 _).drew, ((((Frame2.setCell _ _ _ _ _).trans (Frame2.setCell _ _ _ _ _)).trans (Frame2.alloc _ _ _ _)).trans (Frame2.alloc _ _ _ _)).drew⟩)
set_option maxHeartbeats 1000000 in
set_option maxRecDepth 100000 in
theorem maybe_keep (w : World) (B : Nat) (e v : Value) (d look : Int) (p : Addr) (h : CtxAt w B e d look v) (hd : 0 < d) :
    Calls Tryz.prog 16 #[.pointer (some ⟨B, 0, none⟩), .pointer (some p)] w fun r w' => r = .returned (.tuple #[]) ∧ CtxAt w' B e d look v ∧ Frame2 w w' B none := by
  have hlt := h.lt
  have hlt1 : B < w.heap.size + 1 := by omega
  have HC := Lib.hid h
  obtain ⟨h0, h1, h2, h3, h4, h5, h6, h7, h8, h9, h10, h11, h12⟩ := h.all
  clear h
  go_enter Tryz.func16, Tryz.ntmps16
  go_wp2
  go_region_with (go_at_call 22; refine (cursorC _ _ _ _).mono ?_; rintro e w' ⟨rfl, rfl⟩)
  all_goals (go_wp2; go_end0; exact ⟨rfl, (HC.out.alloc1 _).drew, (Frame2.alloc _ _ _ _).drew⟩)
theorem step_append_rows {P : Program} {ops : Array Oper} {o : Oper} {a : Act} {w : World} {K : Act → World → Prop} {Q : Exit → Act → World → Prop} {E : Prop}
    (hg : o.guard = none) (s x : Operand) (t : TypeId) (hop : o.op = Op.call { callee := Callee.builtin Builtin.append, args := #[s, x], argTypes := #[t, t] })
    (base : Nat) (e : TypeId) (i : TypeInfo) (z : Value) (bytes : Nat) (h1 : P.underlying t = some (.slice e)) (h2 : P.info? e = some i) (h3 : i.zero = some z) (h4 : i.size = 1) (h5 : i.bytes = bytes) (h6 : z.cells.size = 1)
    (v : Value) (n : Nat) (hs : a.eval s = v) (v2 : Value) (m : Nat) (hx : a.eval x = v2) (base2 : Nat) (hown2 : ∃ ys, w.ownsRow base2 e 1 v2 m ys ∧ ∀ u ∈ ys, u.oneCell' = true) (hown : ∃ xs, w.ownsRow base e 1 v n xs ∧ ∀ u ∈ xs, u.oneCell' = true)
    (b1 : n + m ≤ maxLen) (b2 : (n + m) * bytes ≤ 140737488355328) (hbase : base ≤ w.heap.size)
    (hK : ∀ v' w', (∃ zs, w'.ownsRow base e 1 v' (n + m) zs ∧ ∀ u ∈ zs, u.oneCell' = true) → w.grownBy w' v.ownBlock → K (a.put o.dst v') w') :
    if Region.wanted o (yielded ops a.tmps) = true then Oper.wp P o a w K Q else E := by
  have hw : Region.wanted o (yielded ops a.tmps) = true := by simp [Region.wanted, hg]
  rw [if_pos hw]
  obtain ⟨xs, hxs, hx1⟩ := hown
  obtain ⟨ys, hys, hy1⟩ := hown2
  rcases hys.2 with ⟨rfl, rfl⟩ | ⟨g, cap, cur, rfl, hb, hgg, r1, r2, r3, r4⟩
  · have hrun := run_append_owned_none (P := P) w base t o.type e i 1 h1 h2 v n xs hxs
    unfold Oper.wp execOp
    simp only [hop, resolve, invoke, builtin, Sem.run_bind, Sem.run_pure, Result.andThen_ok, List.map_toArray, List.map_cons, List.map_nil, hs, hx, hrun]
    exact hK v w ⟨xs, by simpa using hxs, hx1⟩ ⟨rfl, rfl, rfl, Nat.le_refl _, fun _ _ _ => rfl⟩
  · have hlen : ys.length = m * 1 := hys.1
    refine wp_append_own w s x t hop base e i z 1 bytes h1 h2 h3 h4 h5 h6 (by omega) v n xs hs hxs ⟨g, 0, none⟩ m cap ys hx hlen (hys.cells (g := g) rfl) hy1 b1 b2 hbase ?_
    intro v' w' ho hg _
    exact hK v' w' ⟨_, ho, fun u hu => (List.mem_append.1 hu).elim (hx1 u) (hy1 u)⟩ hg

theorem CtxAt.setZero {w : World} {B : Nat} {e v : Value} {d look : Int} (h : CtxAt w B e d look v) (i : Nat) (u : Value) (hi : (ctxCells e d look v).setIfInBounds i u = ctxCells e d look v) : CtxAt (w.setCell ⟨B, i, none⟩ u) B e d look v := by
  have := Go.Joins.block_setCell (i := i) h u
  rw [hi] at this
  exact this

theorem form_of {w : World} {base e n : Nat} {v : Value} (h : ∃ zs, w.ownsRow base e 1 v n zs ∧ ∀ u ∈ zs, u.oneCell' = true) : ∃ a c, v = .slice a n c := by
  obtain ⟨zs, h, _⟩ := h
  exact row_form h

/-- THE WORLD BEHIND the first two statements of Accept. -/
def W6 (w : World) (B : Nat) (v : Value) : World :=
  (((((w.setCell ⟨B, 11, none⟩ v).setCell ⟨B, 0, none⟩ (.int .i64 0)).setCell ⟨B, 1, none⟩ (.int .i64 0)).setCell ⟨B, 2, none⟩ (.int .i64 0)).setCell ⟨B, 3, none⟩ (.slice none 0 0)).setCell ⟨B, 4, none⟩ (.map none)
theorem W6.ctx {w : World} {B : Nat} {e v0 : Value} {d look : Int} (h : CtxAt w B e d look v0) (v : Value) : CtxAt (W6 w B v) B e d look v :=
  (((((h.setApply v).setZero 0 _ rfl).setZero 1 _ rfl).setZero 2 _ rfl).setZero 3 _ rfl).setZero 4 _ rfl
theorem own_set {w : World} {B e n : Nat} {v : Value} (h : ∃ zs, w.ownsRow (B + 1) e 1 v n zs ∧ ∀ u ∈ zs, u.oneCell' = true) (i : Nat) (u : Value) : ∃ zs, (w.setCell ⟨B, i, none⟩ u).ownsRow (B + 1) e 1 v n zs ∧ ∀ u ∈ zs, u.oneCell' = true := by
  obtain ⟨zs, h, k⟩ := h
  exact ⟨zs, ownsRow_setCell_below h (Nat.lt_succ_self B) u, k⟩
theorem own_drew {w : World} {B e n : Nat} {v : Value} (h : ∃ zs, w.ownsRow (B + 1) e 1 v n zs ∧ ∀ u ∈ zs, u.oneCell' = true) : ∃ zs, w.drew.ownsRow (B + 1) e 1 v n zs ∧ ∀ u ∈ zs, u.oneCell' = true := h
theorem W6.own {w : World} {B n : Nat} {v : Value} (h : ∃ zs, w.ownsRow (B + 1) 88 1 v n zs ∧ ∀ u ∈ zs, u.oneCell' = true) : ∃ zs, (W6 w B v).ownsRow (B + 1) 88 1 v n zs ∧ ∀ u ∈ zs, u.oneCell' = true :=
  own_set (own_set (own_set (own_set (own_set (own_set h 11 _) 0 _) 1 _) 2 _) 3 _) 4 _
theorem W6.frame {w w' : World} {B : Nat} {row : Option Nat} (h : w.drew.grownBy w' row) (v : Value) : Frame2 w (W6 w' B v) B row :=
  ((((((((Frame2.refl w B row).drew).trans (Frame2.grown B h)).trans (Frame2.setCell _ _ _ _ _)).trans (Frame2.setCell _ _ _ _ _)).trans (Frame2.setCell _ _ _ _ _)).trans (Frame2.setCell _ _ _ _ _)).trans (Frame2.setCell _ _ _ _ _)).trans (Frame2.setCell _ _ _ _ _)
theorem end_take {w w' : World} {B N : Nat} {p p2 : Addr} {d d2 look : Int} {v0 v : Value} {row : Option Nat} (HC : CtxAt w' B (.iface 37 (.pointer (some p))) d look v0) (HO : ∃ zs, w'.ownsRow (B + 1) 88 1 v N zs ∧ ∀ u ∈ zs, u.oneCell' = true) (HG : w.drew.grownBy w' row) :
    (∃ v', Rec (((W6 w' B v).setCell ⟨B, 8, none⟩ (.int .i64 d2)).setCell ⟨B, 7, none⟩ (.iface 37 (.pointer (some p2)))).drew B p2 d2 look N v') ∧ Frame2 w (((W6 w' B v).setCell ⟨B, 8, none⟩ (.int .i64 d2)).setCell ⟨B, 7, none⟩ (.iface 37 (.pointer (some p2)))).drew B row :=
  ⟨⟨v, (((W6.ctx HC v).setDepth d2).setErr _).drew, own_drew (own_set (own_set (W6.own HO) 8 _) 7 _)⟩, (((W6.frame HG v).trans (Frame2.setCell _ _ _ _ _)).trans (Frame2.setCell _ _ _ _ _)).drew⟩
theorem end_keep {w w' : World} {B N : Nat} {p : Addr} {d look : Int} {v0 v : Value} {row : Option Nat} (HC : CtxAt w' B (.iface 37 (.pointer (some p))) d look v0) (HO : ∃ zs, w'.ownsRow (B + 1) 88 1 v N zs ∧ ∀ u ∈ zs, u.oneCell' = true) (HG : w.drew.grownBy w' row) :
    (∃ v', Rec (W6 w' B v).drew B p d look N v') ∧ Frame2 w (W6 w' B v).drew B row :=
  ⟨⟨v, (W6.ctx HC v).drew, own_drew (W6.own HO)⟩, (W6.frame HG v).drew⟩

set_option maxHeartbeats 2000000 in
set_option maxRecDepth 100000 in
theorem accept_take (w : World) (B B2 : Nat) (p p2 : Addr) (d d2 look look2 : Int) (n m : Nat) (v v2 : Value) (h : Rec w B p d look n v) (h2 : Rec w B2 p2 d2 look2 m v2) (hne : B ≠ B2) (hd : d ≤ d2) (hnm : n + m ≤ 1000000) :
    Calls Tryz.prog 17 #[.pointer (some ⟨B, 0, none⟩), .pointer (some ⟨B2, 0, none⟩)] w fun r w' => r = .returned (.tuple #[]) ∧ (∃ v', Rec w' B p2 d2 look (n + m) v') ∧ Frame2 w w' B v.ownBlock := by
  have HA := Lib.hid h
  have HB := Lib.hid h2
  obtain ⟨a, c, rfl⟩ := h.form
  obtain ⟨a2, c2, rfl⟩ := h2.form
  have h11 := h.ctx.all.2.2.2.2.2.2.2.2.2.2.2.1
  have k11 := h2.ctx.all.2.2.2.2.2.2.2.2.2.2.2.1
  have hne' : B2 ≠ B := fun e => hne e.symm
  clear h h2
  obtain ⟨i0, hi, hz0, hz1, hz2⟩ := info_parts info88
  go_enter Tryz.func17, Tryz.ntmps17
  go_wp2
  go_region_law ((refine step_append_rows rfl (.tmp 8) (.tmp 12) 68 rfl (B + 1) 88 i0 (.pointer none) 8 Tryz.underlying68 hi hz0 hz1 hz2 rfl (.slice a n c) n rfl (.slice a2 m c2) m rfl (B2 + 1) HB.out.own HA.out.own (by unfold maxLen; omega) (by omega) HA.out.ctx.lt ?_); intro v' w' hown' hgrow; obtain ⟨a', c', rfl⟩ := form_of hown'; have HG := Lib.hid hgrow; have HO := Lib.hid hown'; have hC := HA.out.ctx.drew.grown hgrow (HA.out.row_ne HA.out.ctx); have hD := HB.out.ctx.drew.grown hgrow (HA.out.row_ne HB.out.ctx); have HC := Lib.hid hC; have HD := Lib.hid hD; obtain ⟨g0, g1, g2, g3, g4, g5, g6, g7, g8, g9, g10, g11, g12⟩ := hC.all; obtain ⟨q0, q1, q2, q3, q4, q5, q6, q7, q8, q9, q10, q11, q12⟩ := hD.all; have f0 := hC.free 0; have f1 := hC.free 1; have f2 := hC.free 2; have f3 := hC.free 3; have f4 := hC.free 4; have f7 := hC.free 7; have f8 := hC.free 8; have f11 := hC.free 11; clear hC hD hown' hgrow)
  all_goals (go_wp2; go_region; all_goals (go_wp2; go_end0; exact ⟨rfl, end_take HC.out HO.out HG.out⟩))

set_option maxHeartbeats 2000000 in
set_option maxRecDepth 100000 in
theorem accept_keep (w : World) (B B2 : Nat) (p p2 : Addr) (d d2 look look2 : Int) (n m : Nat) (v v2 : Value) (h : Rec w B p d look n v) (h2 : Rec w B2 p2 d2 look2 m v2) (hne : B ≠ B2) (hd : d2 < d) (hnm : n + m ≤ 1000000) :
    Calls Tryz.prog 17 #[.pointer (some ⟨B, 0, none⟩), .pointer (some ⟨B2, 0, none⟩)] w fun r w' => r = .returned (.tuple #[]) ∧ (∃ v', Rec w' B p d look (n + m) v') ∧ Frame2 w w' B v.ownBlock := by
  have HA := Lib.hid h
  have HB := Lib.hid h2
  obtain ⟨a, c, rfl⟩ := h.form
  obtain ⟨a2, c2, rfl⟩ := h2.form
  have h11 := h.ctx.all.2.2.2.2.2.2.2.2.2.2.2.1
  have k11 := h2.ctx.all.2.2.2.2.2.2.2.2.2.2.2.1
  have hne' : B2 ≠ B := fun e => hne e.symm
  clear h h2
  obtain ⟨i0, hi, hz0, hz1, hz2⟩ := info_parts info88
  go_enter Tryz.func17, Tryz.ntmps17
  go_wp2
  go_region_law ((refine step_append_rows rfl (.tmp 8) (.tmp 12) 68 rfl (B + 1) 88 i0 (.pointer none) 8 Tryz.underlying68 hi hz0 hz1 hz2 rfl (.slice a n c) n rfl (.slice a2 m c2) m rfl (B2 + 1) HB.out.own HA.out.own (by unfold maxLen; omega) (by omega) HA.out.ctx.lt ?_); intro v' w' hown' hgrow; obtain ⟨a', c', rfl⟩ := form_of hown'; have HG := Lib.hid hgrow; have HO := Lib.hid hown'; have hC := HA.out.ctx.drew.grown hgrow (HA.out.row_ne HA.out.ctx); have hD := HB.out.ctx.drew.grown hgrow (HA.out.row_ne HB.out.ctx); have HC := Lib.hid hC; have HD := Lib.hid hD; obtain ⟨g0, g1, g2, g3, g4, g5, g6, g7, g8, g9, g10, g11, g12⟩ := hC.all; obtain ⟨q0, q1, q2, q3, q4, q5, q6, q7, q8, q9, q10, q11, q12⟩ := hD.all; have f0 := hC.free 0; have f1 := hC.free 1; have f2 := hC.free 2; have f3 := hC.free 3; have f4 := hC.free 4; have f7 := hC.free 7; have f8 := hC.free 8; have f11 := hC.free 11; clear hC hD hown' hgrow)
  all_goals (go_wp2; go_region; all_goals (go_wp2; go_end0; exact ⟨rfl, end_keep HC.out HO.out HG.out⟩))

end Go.Proofs.YtieeikddbdkehaaGreat

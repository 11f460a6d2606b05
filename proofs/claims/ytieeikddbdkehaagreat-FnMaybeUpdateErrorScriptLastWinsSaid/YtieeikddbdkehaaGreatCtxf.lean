/- A run of MaybeUpdateError calls on one context. Conditions: the dump is cut with -reflectrows -leanrows. -/
import Derived.Test.YtieeikddbdkehaaGreatCtxd
namespace Go.Proofs.YtieeikddbdkehaaGreat
open Go.RowKit
/-- the context B holds the error L at depth d; all that turned since w0 is new -/
structure Scr (w0 w : World) (B L : Nat) (d : Int) : Prop where
  ctx : ∃ v, CtxAt w B (.iface 37 (.pointer (some ⟨L, 0, none⟩))) d 1 v
  below : Below w0.heap.size w0 w
  hB : w0.heap.size ≤ B
theorem Scr.of {w0 w : World} {B E : Nat} {d : Int} {v : Value} (h : Made w0 w B E d 1 0 v) : Scr w0 w B E d := ⟨⟨v, h.rc.ctx⟩, h.below, h.hB⟩
theorem Scr.alloc {w0 w : World} {B L : Nat} {d : Int} (h : Scr w0 w B L d) (o : Obj) : Scr w0 (w.alloc o) B L d := by
  obtain ⟨v, hc⟩ := h.ctx
  exact ⟨⟨v, hc.alloc1 o⟩, h.below.alloc h.below.size o, h.hB⟩
theorem scr_same {w0 w : World} {B L : Nat} (h : Scr w0 w B L 0) (q : Nat) :
    Calls Tryz.prog 16 #[.pointer (some ⟨B, 0, none⟩), .pointer (some ⟨q, 0, none⟩)] w fun r w' => r = .returned (.tuple #[]) ∧ Scr w0 w' B q 0 := by
  obtain ⟨⟨v, hc⟩, hb, hB⟩ := h
  exact (maybe_set w B _ v 1 ⟨q, 0, none⟩ hc).mono fun _ _ ⟨h1, h2, h3⟩ => ⟨h1, ⟨v, h2⟩, hb.trans (h3.below hb.size hB (by simp)), hB⟩
theorem scr_keep {w0 w : World} {B L : Nat} {d : Int} (h : Scr w0 w B L d) (hd : 0 < d) (q : Nat) :
    Calls Tryz.prog 16 #[.pointer (some ⟨B, 0, none⟩), .pointer (some ⟨q, 0, none⟩)] w fun r w' => r = .returned (.tuple #[]) ∧ Scr w0 w' B L d := by
  obtain ⟨⟨v, hc⟩, hb, hB⟩ := h
  exact (maybe_keep w B _ v d 1 ⟨q, 0, none⟩ hc hd).mono fun _ _ ⟨h1, h2, h3⟩ => ⟨h1, ⟨v, h2⟩, hb.trans (h3.below hb.size hB (by simp)), hB⟩
theorem scr_depth {w0 w : World} {B L : Nat} {d : Int} (h : Scr w0 w B L d) :
    Calls Tryz.prog 11 #[.pointer (some ⟨B, 0, none⟩)] w fun e w' => e = .returned (.int .i64 d) ∧ w = w' := by
  obtain ⟨v, hc⟩ := h.ctx
  exact depthOf w B _ v d 1 hc
theorem scr_err {w0 w : World} {B L : Nat} {d : Int} (h : Scr w0 w B L d) :
    Calls Tryz.prog 12 #[.pointer (some ⟨B, 0, none⟩), .pointer (some ⟨L, 0, none⟩)] w fun e w' => e = .returned (.bool true) ∧ w = w' := by
  obtain ⟨v, hc⟩ := h.ctx
  exact errIs_same w B v d 1 _ hc
end Go.Proofs.YtieeikddbdkehaaGreat

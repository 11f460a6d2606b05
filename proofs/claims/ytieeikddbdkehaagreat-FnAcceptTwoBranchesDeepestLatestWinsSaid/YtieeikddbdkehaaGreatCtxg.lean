/- Two branches accepted one behind the other. Conditions: the dump is cut with -reflectrows -leanrows. -/
import Derived.Test.YtieeikddbdkehaaGreatCtxe
namespace Go.Proofs.YtieeikddbdkehaaGreat
open Go.RowKit
structure Three (w0 w : World) (S B E B1 E1 B2 E2 : Nat) (d d1 d2 : Int) (n n1 n2 : Nat) (v v1 v2 : Value) : Prop where
  rc : Rec w B ⟨E, 0, none⟩ d 1 n v
  rc1 : Rec w B1 ⟨E1, 0, none⟩ d1 1 n1 v1
  rc2 : Rec w B2 ⟨E2, 0, none⟩ d2 1 n2 v2
  below : Below w0.heap.size w0 w
  hB : w0.heap.size ≤ B
  lo : B < S ∧ ∀ k, some k = v.ownBlock → k < S
  hi : S ≤ B1 ∧ S ≤ B2
theorem br_three {w0 w : World} {S B E B1 E1 : Nat} {d d1 : Int} {n n1 : Nat} {v v1 : Value} (h : Two w0 w S B E B1 E1 d d1 1 1 n n1 v v1) (hS : S ≤ w.heap.size) (d2 : Int) (msg : ByteArray) (k : Nat) (hk : k ≤ 10000) :
    Calls Tryz.prog 18 #[.pointer (some ⟨B, 0, none⟩), .int .i64 d2, .string msg, .int .i64 k] w fun r w' => ∃ B2 E2 v2, r = .returned (.tuple #[.pointer (some ⟨B2, 0, none⟩), .pointer (some ⟨E2, 0, none⟩)]) ∧ Three w0 w' S B E B1 E1 B2 E2 d d1 d2 n n1 k v v1 v2 :=
  (br w B n _ d 1 d2 v msg k hk h.rc).mono fun _ _ ⟨h1, ⟨v2, h2⟩, h3, h4⟩ => ⟨_, _, v2, h1, h.rc.below h4, h.rc2.below h4, h2, h.below.trans (h4.mono h.below.size), h.hB, ⟨h.lo.1, h.lo.2.2⟩, h.hi, by omega⟩
def Len (w : World) (B n : Nat) : Prop := ∃ e d look a c, CtxAt w B e d look (.slice a n c)
theorem Len.of {w : World} {B n : Nat} {p : Addr} {d look : Int} {v : Value} (h : Rec w B p d look n v) : Len w B n := by
  obtain ⟨a, c, rfl⟩ := h.form
  exact ⟨_, _, _, a, c, h.ctx⟩
theorem len_of {w : World} {B n : Nat} (h : Len w B n) : Calls Tryz.prog 10 #[.pointer (some ⟨B, 0, none⟩)] w fun e w' => e = .returned (.int .i64 n) ∧ w = w' := by
  obtain ⟨e, d, look, a, c, h⟩ := h
  exact applyLen w B e d look a n c h
theorem Len.frame {w w' : World} {B C n m : Nat} {p : Addr} {d look : Int} {v : Value} (h : Len w C m) (hr : Rec w B p d look n v) (hf : Frame2 w w' B v.ownBlock) (hne : C ≠ B) : Len w' C m := by
  obtain ⟨e, d, look, a, c, h⟩ := h
  exact ⟨e, d, look, a, c, h.frame hf hne (hr.row_ne h)⟩
structure Mid (w0 w : World) (B B1 B2 E2 : Nat) (p : Addr) (d d2 : Int) (n n1 n2 : Nat) (v v2 : Value) : Prop where
  rc : Rec w B p d 1 n v
  len1 : Len w B1 n1
  rc2 : Rec w B2 ⟨E2, 0, none⟩ d2 1 n2 v2
  below : Below w0.heap.size w0 w
  hB : w0.heap.size ≤ B
  ne : B1 ≠ B ∧ B2 ≠ B
theorem Mid.of {w0 w w' : World} {S B E B1 E1 B2 E2 : Nat} {d d1 d2 d' : Int} {n n1 n2 N : Nat} {v v1 v2 v' : Value} {p : Addr} (h : Three w0 w S B E B1 E1 B2 E2 d d1 d2 n n1 n2 v v1 v2) (hr : Rec w' B p d' 1 N v') (hf : Frame2 w w' B v.ownBlock) : Mid w0 w' B B1 B2 E2 p d' d2 N n1 n2 v' v2 := by
  have hl := h.lo.1
  have h1 := h.hi.1
  have h2 := h.hi.2
  refine ⟨hr, (Len.of h.rc1).frame h.rc hf (by omega), h.rc2.frame hf (by omega) (h.rc.row_ne h.rc2.ctx) ?_, h.below.trans (hf.below h.below.size h.hB ?_), h.hB, by omega, by omega⟩
  · intro k hk
    have h3 := (h.rc2.row_lt k hk).1
    exact ⟨by omega, fun e => by have := h.lo.2 k e; omega⟩
  · intro k hk
    have h3 := (h.rc.row_lt k hk).1
    have h4 := h.hB
    omega
structure Fin3 (w0 w : World) (B B1 B2 : Nat) (p : Addr) (d : Int) (n n1 n2 : Nat) (v : Value) : Prop where
  rc : Rec w B p d 1 n v
  len1 : Len w B1 n1
  len2 : Len w B2 n2
  below : Below w0.heap.size w0 w
theorem Fin3.of {w0 w w' : World} {B B1 B2 E2 : Nat} {d d2 d' : Int} {n n1 n2 N : Nat} {v v2 v' : Value} {p p' : Addr} (h : Mid w0 w B B1 B2 E2 p d d2 n n1 n2 v v2) (hr : Rec w' B p' d' 1 N v') (hf : Frame2 w w' B v.ownBlock) : Fin3 w0 w' B B1 B2 p' d' N n1 n2 v' :=
  ⟨hr, h.len1.frame h.rc hf h.ne.1, (Len.of h.rc2).frame h.rc hf h.ne.2, h.below.trans (hf.below h.below.size h.hB fun k hk => by
    have h3 := (h.rc.row_lt k hk).1
    have h4 := h.hB
    omega)⟩
theorem one_take {w0 w : World} {S B E B1 E1 B2 E2 : Nat} {d d1 d2 : Int} {n n1 n2 : Nat} {v v1 v2 : Value} (h : Three w0 w S B E B1 E1 B2 E2 d d1 d2 n n1 n2 v v1 v2) (hd : d ≤ d1) (hnm : n + n1 ≤ 1000000) :
    Calls Tryz.prog 17 #[.pointer (some ⟨B, 0, none⟩), .pointer (some ⟨B1, 0, none⟩)] w fun r w' => r = .returned (.tuple #[]) ∧ ∃ v', Mid w0 w' B B1 B2 E2 ⟨E1, 0, none⟩ d1 d2 (n + n1) n1 n2 v' v2 :=
  (accept_take w B B1 _ _ d d1 1 1 n n1 v v1 h.rc h.rc1 (by have := h.lo.1; have := h.hi.1; omega) hd hnm).mono fun _ _ ⟨h1, ⟨v', h2⟩, h3⟩ => ⟨h1, v', Mid.of h h2 h3⟩
theorem one_keep {w0 w : World} {S B E B1 E1 B2 E2 : Nat} {d d1 d2 : Int} {n n1 n2 : Nat} {v v1 v2 : Value} (h : Three w0 w S B E B1 E1 B2 E2 d d1 d2 n n1 n2 v v1 v2) (hd : d1 < d) (hnm : n + n1 ≤ 1000000) :
    Calls Tryz.prog 17 #[.pointer (some ⟨B, 0, none⟩), .pointer (some ⟨B1, 0, none⟩)] w fun r w' => r = .returned (.tuple #[]) ∧ ∃ v', Mid w0 w' B B1 B2 E2 ⟨E, 0, none⟩ d d2 (n + n1) n1 n2 v' v2 :=
  (accept_keep w B B1 _ _ d d1 1 1 n n1 v v1 h.rc h.rc1 (by have := h.lo.1; have := h.hi.1; omega) hd hnm).mono fun _ _ ⟨h1, ⟨v', h2⟩, h3⟩ => ⟨h1, v', Mid.of h h2 h3⟩
theorem two_take {w0 w : World} {B B1 B2 E2 : Nat} {p : Addr} {d d2 : Int} {n n1 n2 : Nat} {v v2 : Value} (h : Mid w0 w B B1 B2 E2 p d d2 n n1 n2 v v2) (hd : d ≤ d2) (hnm : n + n2 ≤ 1000000) :
    Calls Tryz.prog 17 #[.pointer (some ⟨B, 0, none⟩), .pointer (some ⟨B2, 0, none⟩)] w fun r w' => r = .returned (.tuple #[]) ∧ ∃ v', Fin3 w0 w' B B1 B2 ⟨E2, 0, none⟩ d2 (n + n2) n1 n2 v' :=
  (accept_take w B B2 _ _ d d2 1 1 n n2 v v2 h.rc h.rc2 (fun e => h.ne.2 e.symm) hd hnm).mono fun _ _ ⟨h1, ⟨v', h2⟩, h3⟩ => ⟨h1, v', Fin3.of h h2 h3⟩
theorem two_keep {w0 w : World} {B B1 B2 E2 : Nat} {p : Addr} {d d2 : Int} {n n1 n2 : Nat} {v v2 : Value} (h : Mid w0 w B B1 B2 E2 p d d2 n n1 n2 v v2) (hd : d2 < d) (hnm : n + n2 ≤ 1000000) :
    Calls Tryz.prog 17 #[.pointer (some ⟨B, 0, none⟩), .pointer (some ⟨B2, 0, none⟩)] w fun r w' => r = .returned (.tuple #[]) ∧ ∃ v', Fin3 w0 w' B B1 B2 p d (n + n2) n1 n2 v' :=
  (accept_keep w B B2 _ _ d d2 1 1 n n2 v v2 h.rc h.rc2 (fun e => h.ne.2 e.symm) hd hnm).mono fun _ _ ⟨h1, ⟨v', h2⟩, h3⟩ => ⟨h1, v', Fin3.of h h2 h3⟩
/-- the size of the world in which the first branch was begun -/
theorem br_two' {w0 w : World} {B E : Nat} {d0 look : Int} {n : Nat} {v : Value} (h : Made w0 w B E d0 look n v) (d : Int) (msg : ByteArray) (k : Nat) (hk : k ≤ 10000) :
    Calls Tryz.prog 18 #[.pointer (some ⟨B, 0, none⟩), .int .i64 d, .string msg, .int .i64 k] w fun r w' => ∃ B2 E2 v2, r = .returned (.tuple #[.pointer (some ⟨B2, 0, none⟩), .pointer (some ⟨E2, 0, none⟩)]) ∧ (Two w0 w' w.heap.size B E B2 E2 d0 d look look n k v v2 ∧ w.heap.size ≤ w'.heap.size) :=
  (br w B n _ d0 look d v msg k hk h.rc).mono fun _ _ ⟨h1, ⟨v2, h2⟩, h3, h4⟩ => ⟨_, _, v2, h1, ⟨h.rc.below h4, h2, h.err.below h4 h.err.lt, h3, h.below.trans (h4.mono h.below.size), h.hB,
    ⟨h.rc.ctx.lt, h.err.lt, fun k hk => (h.rc.row_lt k hk).2⟩, by omega⟩, h4.size⟩
end Go.Proofs.YtieeikddbdkehaaGreat

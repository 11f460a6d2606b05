/- What a branch made by the law file gives, and what Accept does to a parent and a branch, in the form in which the laws take it. Conditions: the dump is cut with -reflectrows -leanrows. -/
import Derived.Test.YtieeikddbdkehaaGreatCtxd
namespace Go.Proofs.YtieeikddbdkehaaGreat
open Go.RowKit
/-- Two contexts: a parent B and a branch B2 made behind her (behind the block number S), all that the call has made since the world w0. -/
structure Two (w0 w : World) (S B E B2 E2 : Nat) (d d2 look look2 : Int) (n m : Nat) (v v2 : Value) : Prop where
  rc : Rec w B ⟨E, 0, none⟩ d look n v
  rc2 : Rec w B2 ⟨E2, 0, none⟩ d2 look2 m v2
  err : ErrAt w E
  err2 : ErrAt w E2
  below : Below w0.heap.size w0 w
  hB : w0.heap.size ≤ B
  lo : B < S ∧ E < S ∧ ∀ k, some k = v.ownBlock → k < S
  hi : S ≤ B2
theorem Two.ne {w0 w : World} {S B E B2 E2 : Nat} {d d2 look look2 : Int} {n m : Nat} {v v2 : Value} (h : Two w0 w S B E B2 E2 d d2 look look2 n m v v2) : B ≠ B2 := by
  have h1 := h.lo.1
  have h2 := h.hi
  omega
theorem br_two {w0 w : World} {B E : Nat} {d0 look : Int} {n : Nat} {v : Value} (h : Made w0 w B E d0 look n v) (d : Int) (msg : ByteArray) (k : Nat) (hk : k ≤ 10000) :
    Calls Tryz.prog 18 #[.pointer (some ⟨B, 0, none⟩), .int .i64 d, .string msg, .int .i64 k] w fun r w' => ∃ B2 E2 v2, r = .returned (.tuple #[.pointer (some ⟨B2, 0, none⟩), .pointer (some ⟨E2, 0, none⟩)]) ∧ Two w0 w' w.heap.size B E B2 E2 d0 d look look n k v v2 :=
  (br w B n _ d0 look d v msg k hk h.rc).mono fun _ _ ⟨h1, ⟨v2, h2⟩, h3, h4⟩ => ⟨_, _, v2, h1, h.rc.below h4, h2, h.err.below h4 h.err.lt, h3, h.below.trans (h4.mono h.below.size), h.hB,
    ⟨h.rc.ctx.lt, h.err.lt, fun k hk => (h.rc.row_lt k hk).2⟩, by omega⟩
/-- Behind Accept. -/
structure Took (w0 w : World) (S B E B2 E2 : Nat) (p : Addr) (d d2 look look2 : Int) (n m : Nat) (v v2 : Value) : Prop where
  rc : Rec w B p d look n v
  rc2 : Rec w B2 ⟨E2, 0, none⟩ d2 look2 m v2
  err : ErrAt w E
  err2 : ErrAt w E2
  below : Below w0.heap.size w0 w
  hB : w0.heap.size ≤ B
theorem Took.of {w0 w w' : World} {S B E B2 E2 : Nat} {d d' d2 look look2 : Int} {n m k : Nat} {v v2 v' : Value} {p : Addr} (h : Two w0 w S B E B2 E2 d d2 look look2 n m v v2) (hr : Rec w' B p d' look k v') (hf : Frame2 w w' B v.ownBlock) : Took w0 w' S B E B2 E2 p d' d2 look look2 k m v' v2 := by
  have e1 := h.rc.err_ne h.err
  have e2 := h.rc.err_ne h.err2
  refine ⟨hr, h.rc2.frame hf (fun e => h.ne e.symm) (h.rc.row_ne h.rc2.ctx) ?_, h.err.frame hf e1.2 e1.1, h.err2.frame hf e2.2 e2.1, h.below.trans (hf.below h.below.size h.hB ?_), h.hB⟩
  · intro k hk
    have h1 := (h.rc2.row_lt k hk).1
    have h2 := h.hi
    have h3 := h.lo.1
    exact ⟨by omega, fun e => by have := h.lo.2.2 k e; omega⟩
  · intro k hk
    have h1 := (h.rc.row_lt k hk).1
    have h2 := h.hB
    omega
theorem acc_take {w0 w : World} {S B E B2 E2 : Nat} {d d2 look look2 : Int} {n m : Nat} {v v2 : Value} (h : Two w0 w S B E B2 E2 d d2 look look2 n m v v2) (hd : d ≤ d2) (hnm : n + m ≤ 1000000) :
    Calls Tryz.prog 17 #[.pointer (some ⟨B, 0, none⟩), .pointer (some ⟨B2, 0, none⟩)] w fun r w' => r = .returned (.tuple #[]) ∧ ∃ v', Took w0 w' S B E B2 E2 ⟨E2, 0, none⟩ d2 d2 look look2 (n + m) m v' v2 :=
  (accept_take w B B2 _ _ d d2 look look2 n m v v2 h.rc h.rc2 h.ne hd hnm).mono fun _ _ ⟨h1, ⟨v', h2⟩, h3⟩ => ⟨h1, v', Took.of h h2 h3⟩
theorem acc_keep {w0 w : World} {S B E B2 E2 : Nat} {d d2 look look2 : Int} {n m : Nat} {v v2 : Value} (h : Two w0 w S B E B2 E2 d d2 look look2 n m v v2) (hd : d2 < d) (hnm : n + m ≤ 1000000) :
    Calls Tryz.prog 17 #[.pointer (some ⟨B, 0, none⟩), .pointer (some ⟨B2, 0, none⟩)] w fun r w' => r = .returned (.tuple #[]) ∧ ∃ v', Took w0 w' S B E B2 E2 ⟨E, 0, none⟩ d d2 look look2 (n + m) m v' v2 :=
  (accept_keep w B B2 _ _ d d2 look look2 n m v v2 h.rc h.rc2 h.ne hd hnm).mono fun _ _ ⟨h1, ⟨v', h2⟩, h3⟩ => ⟨h1, v', Took.of h h2 h3⟩
theorem Took.next {w0 w w' : World} {S B E B2 E2 : Nat} {d d2 look look2 : Int} {n m : Nat} {v v2 : Value} {p : Addr} (h : Took w0 w S B E B2 E2 p d d2 look look2 n m v v2) (hb : Below w.heap.size w w') : Took w0 w' S B E B2 E2 p d d2 look look2 n m v v2 :=
  ⟨h.rc.below hb, h.rc2.below hb, h.err.below hb h.err.lt, h.err2.below hb h.err2.lt, h.below.trans (hb.mono h.below.size), h.hB⟩
theorem own_frame {w w' : World} {B n : Nat} {v : Value} (h : ∃ xs, w.ownsRow (B + 1) 88 1 v n xs ∧ ∀ u ∈ xs, u.oneCell' = true) (hf : Frame2 w w' B none) : ∃ xs, w'.ownsRow (B + 1) 88 1 v n xs ∧ ∀ u ∈ xs, u.oneCell' = true := by
  obtain ⟨xs, ho, hx⟩ := h
  refine ⟨xs, ⟨ho.1, ?_⟩, hx⟩
  rcases ho.2 with hn | ⟨g, cap, cur, rfl, hb, hg, rest⟩
  · exact .inl hn
  · exact .inr ⟨g, cap, cur, rfl, hb, (hf.block g (lt_of_block hg) (by omega) (by simp)).trans hg, rest⟩
theorem two_of {w0 w1 w2 wr w' : World} {B B2 E E2 : Nat} {d d2 look : Int} {k m : Nat} {v v2 : Value} {o : Obj} (HM : Made w0 w1 B E d look k v) (HN : Branched w1 w2 B B2 E d look k v) (HL : Below B2 w2 wr) (ho : ∃ xs, wr.ownsRow (B2 + 1) 88 1 v2 m xs ∧ ∀ u ∈ xs, u.oneCell' = true)
    (hc : CtxAt w' B2 (.iface 37 (.pointer (some ⟨E2, 0, none⟩))) d2 look v2) (hf : Frame2 (wr.alloc o) w' B2 none) (he : ErrAt w' E2) : Two w0 w' w1.heap.size B E B2 E2 d d2 look look k m v v2 := by
  have hB := HN.hB
  have h0 : Below w1.heap.size w1 wr := HN.below.trans (HL.mono (by omega))
  have h1 : Below w1.heap.size w1 (wr.alloc o) := h0.alloc h0.size o
  have h2 : Below w1.heap.size w1 w' := h1.trans (hf.below (by have := h1.size; omega) (by omega) (by simp))
  refine ⟨HM.rc.below h2, ⟨hc, own_frame ?_ hf⟩, HM.err.below h2 HM.err.lt, he, HM.below.trans (h2.mono HM.below.size), HM.hB, ⟨HM.rc.ctx.lt, HM.err.lt, fun k hk => (HM.rc.row_lt k hk).2⟩, by omega⟩
  obtain ⟨xs, h, hx⟩ := ho
  exact ⟨xs, h.alloc o, hx⟩
theorem iso_set {w0 w1 w2 wr : World} {B B2 E : Nat} {look : Int} {k m : Nat} {v : Value} {cs : Array Value} (HM : Made w0 w1 B E 0 look k v) (HN : Branched w1 w2 B B2 E 0 look k v) (HL : Lp B2 ⟨E, 0, none⟩ 0 look w2 m wr) :
    Calls Tryz.prog 16 #[.pointer (some ⟨B2, 0, none⟩), .pointer (some ⟨wr.heap.size, 0, none⟩)] (wr.alloc (.cells cs 48)) fun r w' => r = .returned (.tuple #[]) ∧ ∃ E2 v2, E2 = wr.heap.size ∧ Two w0 w' w1.heap.size B E B2 E2 0 0 look look k m v v2 := by
  obtain ⟨⟨v2, hr⟩, hb⟩ := HL
  have hE : ErrAt (wr.alloc (.cells cs 48)) wr.heap.size := ⟨cs, heap_alloc_new wr _⟩
  have hlt := hr.ctx.lt
  exact (maybe_set _ B2 _ _ look ⟨wr.heap.size, 0, none⟩ (hr.ctx.alloc1 _)).mono fun _ _ ⟨h1, h2, h3⟩ => ⟨h1, _, v2, rfl, two_of HM HN hb hr.own h2 h3 (hE.frame h3 (by omega) (by simp))⟩
theorem iso_keep {w0 w1 w2 wr : World} {B B2 E : Nat} {d look : Int} {k m : Nat} {v : Value} {cs : Array Value} (HM : Made w0 w1 B E d look k v) (HN : Branched w1 w2 B B2 E d look k v) (HL : Lp B2 ⟨E, 0, none⟩ d look w2 m wr) (hd : 0 < d) :
    Calls Tryz.prog 16 #[.pointer (some ⟨B2, 0, none⟩), .pointer (some ⟨wr.heap.size, 0, none⟩)] (wr.alloc (.cells cs 48)) fun r w' => r = .returned (.tuple #[]) ∧ ∃ v2, Two w0 w' w1.heap.size B E B2 E d d look look k m v v2 := by
  obtain ⟨⟨v2, hr⟩, hb⟩ := HL
  have hB := HN.hB
  have he1 := HM.err.lt
  have hE : ErrAt (wr.alloc (.cells cs 48)) E := ((HN.err.below hb (by omega)).below ((Below.refl _ _).alloc (Nat.le_refl _) _) (by have := HN.below.size; have := hb.size; omega))
  exact (maybe_keep _ B2 _ _ d look ⟨wr.heap.size, 0, none⟩ (hr.ctx.alloc1 _) hd).mono fun _ _ ⟨h1, h2, h3⟩ => ⟨h1, v2, two_of HM HN hb hr.own h2 h3 (hE.frame h3 (by omega) (by simp))⟩
end Go.Proofs.YtieeikddbdkehaaGreat

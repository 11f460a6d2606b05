/- The contracts of the two makers of contexts in the law file, zzB2Mk and zzB2Br, at up to 10000 deferred captures. Conditions: the dump is cut with -reflectrows -leanrows. -/
import Derived.Test.YtieeikddbdkehaaGreatCtxb
namespace Go.Proofs.YtieeikddbdkehaaGreat
open Go.RowKit

theorem newCtx_err (w : World) (look : Int) (E B : Nat) (hE : ErrAt w E) (hB : B = w.heap.size + 2) :
    Calls Tryz.prog 19 #[.int .i64 look] w fun e w' => e = .returned (.pointer (some ⟨B, 0, none⟩)) ∧ CtxAt w' B .nilIface 0 look (.slice none 0 0) ∧ Below w.heap.size w w' ∧ ErrAt w' E := by
  subst hB
  exact (newCtx w look).mono fun _ _ ⟨h1, h2, h3, _⟩ => ⟨h1, h2, h3, hE.below h3 hE.lt⟩
theorem set_rec {w : World} {B : Nat} {e : Value} {d look d' : Int} {p : Addr} (h : CtxAt w B e d look (.slice none 0 0)) :
    Rec ((w.setCell ⟨B, 7, none⟩ (.iface 37 (.pointer (some p)))).setCell ⟨B, 8, none⟩ (.int .i64 d')) B p d' look 0 (.slice none 0 0) :=
  ⟨(h.setErr _).setDepth _, [], World.ownsRow_nil _ _ _ _, by simp⟩
theorem setDeepest_rec (w : World) (B : Nat) (e : Value) (d look d' : Int) (p : Addr) (h : CtxAt w B e d look (.slice none 0 0)) :
    Calls Tryz.prog 20 #[.pointer (some ⟨B, 0, none⟩), .int .i64 d', .pointer (some p)] w fun e w' => e = .returned (.tuple #[]) ∧ (∃ v, Rec w' B p d' look 0 v) ∧ Below B w w' :=
  (setDeepest w B e _ d look d' (some p) h).mono fun _ _ ⟨h1, h2⟩ => ⟨h1, h2 ▸ ⟨_, set_rec h⟩, h2 ▸ (((Below.refl _ _).setCell (p := ⟨B, 7, none⟩) (Nat.le_refl B) _).setCell (p := ⟨B, 8, none⟩) (Nat.le_refl B) _)⟩

/-- what the loop of deferred captures carries -/
def Lp (B : Nat) (p : Addr) (d look : Int) (w1 : World) (k : Nat) (wr : World) : Prop := (∃ v, Rec wr B p d look k v) ∧ Below B w1 wr
theorem Lp.start {B : Nat} {p : Addr} {d look : Int} {w1 : World} (h : ∃ v, Rec w1 B p d look 0 v) : Lp B p d look w1 0 w1 := ⟨h, Below.refl _ _⟩
theorem Lp.next {B : Nat} {p : Addr} {d look : Int} {w1 w2 w3 : World} {k : Nat} (h : Lp B p d look w1 k w2) (h1 : ∃ v, Rec w3 B p d look (k + 1) v) (h2 : Below B w2 w3) : Lp B p d look w1 (k + 1) w3 := ⟨h1, h.2.trans h2⟩
theorem defer_lp (w w1 : World) (B : Nat) (p : Addr) (d look : Int) (k : Nat) (h : Lp B p d look w1 k w) (hk : k ≤ 100000) :
    Calls Tryz.prog 15 #[.pointer (some ⟨B, 0, none⟩)] w fun r w' => r = .returned (.tuple #[]) ∧ Lp B p d look w1 (k + 1) w' := by
  obtain ⟨v, hr⟩ := h.1
  exact (defer w B p d look k v hr hk).mono fun _ _ ⟨h1, h2, h3⟩ => ⟨h1, h.next h2 h3⟩

set_option maxHeartbeats 1000000 in
set_option maxRecDepth 100000 in
theorem mk (w : World) (look d : Int) (msg : ByteArray) (k : Nat) (hk : k ≤ 10000) :
    Calls Tryz.prog 8 #[.int .i64 look, .int .i64 d, .string msg, .int .i64 k] w fun r w' => r = .returned (.tuple #[.pointer (some ⟨w.heap.size + 3, 0, none⟩), .pointer (some ⟨w.heap.size, 0, none⟩)]) ∧ (∃ v, Rec w' (w.heap.size + 3) ⟨w.heap.size, 0, none⟩ d look k v) ∧ ErrAt w' w.heap.size ∧ Below w.heap.size w w' := by
  go_enter Tryz.func8, Tryz.ntmps8
  go_wp2_with fail
  refine (newCtx_err _ look w.heap.size (w.heap.size + 3) ⟨_, heap_alloc_new w _⟩ (by simp)).mono ?_
  rintro e w1 ⟨rfl, hc, hb, he⟩
  have hb1 : Below w.heap.size w w1 := ((Below.refl _ _).alloc (Nat.le_refl _) _).trans (hb.mono (by simp))
  have HC := Lib.hid hc
  have HB := Lib.hid hb1
  have HE := Lib.hid he
  clear hc hb he hb1
  go_wp2_with fail
  refine (setDeepest_rec w1 _ _ _ look d ⟨w.heap.size, 0, none⟩ HC.out).mono ?_
  rintro e w2 ⟨rfl, hr, hb⟩
  have HL : Hid (Lp (w.heap.size + 3) ⟨w.heap.size, 0, none⟩ d look w2 0 w2) := Lp.start hr
  have HB2 : Hid (Below w.heap.size w w2) := HB.out.trans (hb.mono (by omega))
  have HE2 : Hid (ErrAt w2 w.heap.size) := HE.out.below hb (by omega)
  clear hr hb HB HE HC
  go_wp2_with fail
  go_loopw [12] (fun i wr => ∃ j : Nat, j ≤ k ∧ i = .int .i64 j ∧ Hid (Lp (w.heap.size + 3) ⟨w.heap.size, 0, none⟩ d look w2 j wr)) (fun i _ => k - (intOf i).toNat)
  case atStart => exact ⟨0, Nat.zero_le _, rfl, HL⟩
  case round =>
    obtain ⟨j, hj, rfl, HJ⟩ := hrel
    by_cases hlt : j < k
    · go_wp2_with (go_at_call 15; refine (defer_lp _ w2 _ _ d look j HJ.out (by omega)).mono ?_; rintro e w3 ⟨rfl, hl⟩)
      exact ⟨⟨j + 1, by omega, by go_num, hl⟩, by simp [intOf]; omega⟩
    · go_wp2
      go_ret2
      obtain rfl : j = k := by omega
      exact ⟨rfl, HJ.out.1, HE2.out.below HJ.out.2 (by omega), HB2.out.trans (HJ.out.2.mono (by omega))⟩
theorem branch_err (w : World) (B0 : Nat) (p0 : Addr) (d look : Int) (v : Value) (n E B : Nat) (h : Rec w B0 p0 d look n v) (hE : ErrAt w E) (hB : B = w.heap.size) :
    Calls Tryz.prog 9 #[.pointer (some ⟨B0, 0, none⟩)] w fun e w' => e = .returned (.pointer (some ⟨B, 0, none⟩)) ∧ CtxAt w' B (.iface 37 (.pointer (some p0))) d look (.slice none 0 0) ∧ Below w.heap.size w w' ∧ ErrAt w' E := by
  subst hB
  obtain ⟨a, c, rfl⟩ := h.form
  exact (branch w B0 p0 d look a n c h.ctx).mono fun _ _ ⟨h1, h2, h3, _⟩ => ⟨h1, h2, h3, hE.below h3 hE.lt⟩
set_option maxHeartbeats 1000000 in
set_option maxRecDepth 100000 in
theorem br (w : World) (B0 n0 : Nat) (p0 : Addr) (d0 look d : Int) (v0 : Value) (msg : ByteArray) (k : Nat) (hk : k ≤ 10000) (hrec : Rec w B0 p0 d0 look n0 v0) :
    Calls Tryz.prog 18 #[.pointer (some ⟨B0, 0, none⟩), .int .i64 d, .string msg, .int .i64 k] w fun r w' => r = .returned (.tuple #[.pointer (some ⟨w.heap.size + 1, 0, none⟩), .pointer (some ⟨w.heap.size, 0, none⟩)]) ∧ (∃ v, Rec w' (w.heap.size + 1) ⟨w.heap.size, 0, none⟩ d look k v) ∧ ErrAt w' w.heap.size ∧ Below w.heap.size w w' := by
  have HR := Lib.hid hrec
  clear hrec
  go_enter Tryz.func18, Tryz.ntmps18
  go_wp2_with fail
  refine (branch_err _ B0 p0 d0 look v0 n0 w.heap.size (w.heap.size + 1) (HR.out.below ((Below.refl _ _).alloc (Nat.le_refl _) _)) ⟨_, heap_alloc_new w _⟩ (by simp)).mono ?_
  rintro e w1 ⟨rfl, hc, hb, he⟩
  have hb1 : Below w.heap.size w w1 := ((Below.refl _ _).alloc (Nat.le_refl _) _).trans (hb.mono (by simp))
  have HC := Lib.hid hc
  have HB := Lib.hid hb1
  have HE := Lib.hid he
  clear hc hb he hb1
  go_wp2_with fail
  refine (setDeepest_rec w1 _ _ _ look d ⟨w.heap.size, 0, none⟩ HC.out).mono ?_
  rintro e w2 ⟨rfl, hr, hb⟩
  have HL : Hid (Lp (w.heap.size + 1) ⟨w.heap.size, 0, none⟩ d look w2 0 w2) := Lp.start hr
  have HB2 : Hid (Below w.heap.size w w2) := HB.out.trans (hb.mono (by omega))
  have HE2 : Hid (ErrAt w2 w.heap.size) := HE.out.below hb (by omega)
  clear hr hb HB HE HC
  go_wp2_with fail
  go_loopw [12] (fun i wr => ∃ j : Nat, j ≤ k ∧ i = .int .i64 j ∧ Hid (Lp (w.heap.size + 1) ⟨w.heap.size, 0, none⟩ d look w2 j wr)) (fun i _ => k - (intOf i).toNat)
  case atStart => exact ⟨0, Nat.zero_le _, rfl, HL⟩
  case round =>
    obtain ⟨j, hj, rfl, HJ⟩ := hrel
    by_cases hlt : j < k
    · go_wp2_with (go_at_call 15; refine (defer_lp _ w2 _ _ d look j HJ.out (by omega)).mono ?_; rintro e w3 ⟨rfl, hl⟩)
      exact ⟨⟨j + 1, by omega, by go_num, hl⟩, by simp [intOf]; omega⟩
    · go_wp2
      go_ret2
      obtain rfl : j = k := by omega
      exact ⟨rfl, HJ.out.1, HE2.out.below HJ.out.2 (by omega), HB2.out.trans (HJ.out.2.mono (by omega))⟩
end Go.Proofs.YtieeikddbdkehaaGreat

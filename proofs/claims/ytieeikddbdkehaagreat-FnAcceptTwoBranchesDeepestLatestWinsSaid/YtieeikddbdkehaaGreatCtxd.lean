/- What the makers give, in the form in which the laws take it. Conditions: the dump is cut with -reflectrows -leanrows. -/
import Derived.Test.YtieeikddbdkehaaGreatCtxc
import Derived.LaidEqlPtr
namespace Go.Proofs.YtieeikddbdkehaaGreat
open Go.RowKit
structure Made (w0 w : World) (B E : Nat) (d look : Int) (n : Nat) (v : Value) : Prop where
  rc : Rec w B ⟨E, 0, none⟩ d look n v
  err : ErrAt w E
  below : Below w0.heap.size w0 w
  hB : w0.heap.size ≤ B
  hE : w0.heap.size ≤ E
theorem mk_made (w : World) (look d : Int) (msg : ByteArray) (k : Nat) (hk : k ≤ 10000) :
    Calls Tryz.prog 8 #[.int .i64 look, .int .i64 d, .string msg, .int .i64 k] w fun r w' => ∃ B E v, r = .returned (.tuple #[.pointer (some ⟨B, 0, none⟩), .pointer (some ⟨E, 0, none⟩)]) ∧ Made w w' B E d look k v :=
  (mk w look d msg k hk).mono fun _ _ ⟨h1, ⟨v, h2⟩, h3, h4⟩ => ⟨_, _, v, h1, h2, h3, h4, by omega, by omega⟩
structure Branched (w w' : World) (B B2 E : Nat) (d look : Int) (n : Nat) (v : Value) : Prop where
  ctx : CtxAt w' B2 (.iface 37 (.pointer (some ⟨E, 0, none⟩))) d look (.slice none 0 0)
  old : Rec w' B ⟨E, 0, none⟩ d look n v
  err : ErrAt w' E
  below : Below w.heap.size w w'
  hB : w.heap.size = B2
  ne : B2 ≠ B
theorem Branched.rc {w w' : World} {B B2 E : Nat} {d look : Int} {n : Nat} {v : Value} (h : Branched w w' B B2 E d look n v) : Rec w' B2 ⟨E, 0, none⟩ d look 0 (.slice none 0 0) :=
  ⟨h.ctx, [], World.ownsRow_nil _ _ _ _, by simp⟩
theorem branch_made {w0 w : World} {B E : Nat} {d look : Int} {n : Nat} {v : Value} (h : Made w0 w B E d look n v) :
    Calls Tryz.prog 9 #[.pointer (some ⟨B, 0, none⟩)] w fun e w' => ∃ B2, e = .returned (.pointer (some ⟨B2, 0, none⟩)) ∧ Branched w w' B B2 E d look n v :=
  (branch_err w B _ d look v n E _ h.rc h.err rfl).mono fun _ _ ⟨h1, h2, h3, h4⟩ => ⟨_, h1, h2, h.rc.below h3, h4, h3, rfl, by have := h.rc.ctx.lt; omega⟩
theorem info70' : (Tryz.prog.info? 70).map (fun i => i.size) = some 13 := by kernel_rfl
theorem info70 : ∃ i, Tryz.prog.info? 70 = some i ∧ i.size ≠ 0 := by
  obtain ⟨i, h1, h2⟩ := Option.map_eq_some_iff.1 info70'
  exact ⟨i, h1, by omega⟩
theorem eq_ctx {w : World} {B B2 : Nat} {e v e2 v2 : Value} {d look d2 look2 : Int} (h2 : CtxAt w B2 e2 d2 look2 v2) (h : CtxAt w B e d look v) (hne : B2 ≠ B) :
    (binOp .eql 36 (.pointer (some ⟨B2, 0, none⟩)) (.pointer (some ⟨B, 0, none⟩))).run Tryz.prog w = .ok (.bool false) w := by
  obtain ⟨i, hi, hs⟩ := info70
  exact run_eql_ptr_other (P := Tryz.prog) w (a := ⟨B2, 0, none⟩) (b := ⟨B, 0, none⟩) Tryz.underlying36 hi hs (fun hh => hne (congrArg Addr.block hh)) h2 h
/-- the length of the captures, whatever they are -/
theorem len_rec {w : World} {B : Nat} {p : Addr} {d look : Int} {n : Nat} {v : Value} (h : Rec w B p d look n v) :
    Calls Tryz.prog 10 #[.pointer (some ⟨B, 0, none⟩)] w fun e w' => e = .returned (.int .i64 n) ∧ w = w' := by
  obtain ⟨a, c, rfl⟩ := h.form
  exact applyLen w B _ d look a n c h.ctx
end Go.Proofs.YtieeikddbdkehaaGreat

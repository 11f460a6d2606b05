/- A chain of references built from the last one on; its text. The seat's flags: -reflectrows -leanrows (see REPORT.md, TRANSLATOR). -/
import Derived.Test.YtfmlfaankmnfjaaGreatFmtEh
import Derived.Test.YtfmlfaankmnfjaaGreatFmtEe
namespace Go.Proofs.YtfmlfaankmnfjaaGreatFmt
open Go.RowKit
theorem SeqOf.head_lt {B : Nat} {W : World} {ts : List ByteArray} {q : Option Addr} (h : SeqOf B W ts q) : ∀ a, q = some a → a.block < B := by
  cases ts with
  | nil => intro a ha; rw [show q = none from h] at ha; cases ha
  | cons t ts =>
    obtain ⟨b, _, _, _, rfl, hb, _⟩ := h
    intro a ha
    cases ha
    exact hb
theorem seqTxt_le (m : Nat) : ∀ ts : List ByteArray, (∀ t ∈ ts, t.size ≤ m) → (seqTxt ts).size ≤ ts.length * (m + 1)
  | [], _ => Nat.zero_le _
  | [t], h => by have := h t (List.mem_singleton.2 rfl); show t.size ≤ _; simp; omega
  | t :: u :: ts, h => by
    have h1 := h t (by simp)
    have h2 := seqTxt_le m (u :: ts) (fun x hx => h x (by simp at hx ⊢; right; exact hx))
    have h3 : (⟨#[32]⟩ : ByteArray).size = 1 := rfl
    show (t ++ (⟨#[32]⟩ ++ seqTxt (u :: ts))).size ≤ _
    rw [ByteArray.size_append, ByteArray.size_append]
    have e : (t :: u :: ts).length * (m + 1) = (u :: ts).length * (m + 1) + (m + 1) := by rw [List.length_cons, Nat.add_mul, Nat.one_mul]
    omega
theorem seqTxt_snoc (t : ByteArray) : ∀ ts : List ByteArray, ts ≠ [] → seqTxt (ts ++ [t]) = seqTxt ts ++ ⟨#[32]⟩ ++ t
  | [], h => absurd rfl h
  | [u], _ => by show u ++ (⟨#[32]⟩ ++ t) = u ++ ⟨#[32]⟩ ++ t; exact ByteArray.ext (by simp [ByteArray.data_append])
  | u :: v :: ts, _ => by
    have h := seqTxt_snoc t (v :: ts) (by simp)
    show u ++ (⟨#[32]⟩ ++ seqTxt (v :: ts ++ [t])) = u ++ (⟨#[32]⟩ ++ seqTxt (v :: ts)) ++ ⟨#[32]⟩ ++ t
    rw [h]
    exact ByteArray.ext (by simp [ByteArray.data_append, Array.append_assoc])
def refs (S : Nat → ByteArray) (n : Nat) : List ByteArray := (List.range n).map fun i => refTxt (S i)
theorem refs_len (S : Nat → ByteArray) (n : Nat) : (refs S n).length = n := by simp [refs]
theorem refs_succ (S : Nat → ByteArray) (n : Nat) : refs S (n + 1) = refs S n ++ [refTxt (S n)] := by simp [refs, List.range_succ]
theorem refs_drop (S : Nat → ByteArray) (k n : Nat) (h : k < n) : (refs S n).drop k = refTxt (S k) :: (refs S n).drop (k + 1) := by
  rw [List.drop_eq_getElem_cons (by rw [refs_len]; exact h)]
  simp [refs]
theorem refs_size {S : Nat → ByteArray} {n : Nat} (h : SizedTo S n) : (seqTxt (refs S n)).size ≤ n * 1048579 := by
  have := seqTxt_le 1048578 (refs S n) (fun t ht => by
    obtain ⟨i, hi, rfl⟩ := List.mem_map.1 ht
    have h1 := h i (List.mem_range.1 hi)
    have h2 := refTxt_size (S i)
    omega)
  rw [refs_len] at this
  omega
def Building (w1 wr : World) (n k : Nat) (S : Nat → ByteArray) (q : Option Addr) : Prop := SeqOf wr.heap.size wr ((refs S n).drop k) q ∧ Below w1.heap.size w1 wr
theorem building_start (w1 : World) (n : Nat) (S : Nat → ByteArray) : Building w1 w1 n n S none :=
  ⟨by rw [List.drop_of_length_le (by rw [refs_len]; exact Nat.le_refl _)]; rfl, Below.refl _ _⟩
def linked (wr : World) (id : ByteArray) (hd : Bool) (q : Option Addr) : World :=
  (wr.alloc (.cells #[.int .i64 0, .string id] 59)).alloc (.cells #[.bool hd, .iface 44 (.pointer (some ⟨wr.heap.size, 0, none⟩)), .pointer q] 63)
theorem building_step {w1 wr : World} {n k : Nat} {S : Nat → ByteArray} {q : Option Addr} {hd : Bool} (h : Building w1 wr n (k + 1) S q) (hk : k < n) (hsz : (S k).size ≤ 4194304) (ha : AsciiS (S k)) :
    Building w1 (linked wr (S k) hd q) n k S (some ⟨wr.heap.size + 1, 0, none⟩) := by
  have hb : Below wr.heap.size wr (linked wr (S k) hd q) := ((Below.refl _ wr).alloc (Nat.le_refl _) _).alloc (by simp) _
  have hs : (linked wr (S k) hd q).heap.size = wr.heap.size + 1 + 1 := by simp [linked]
  have hs1 : ∀ o, (wr.alloc o).heap.size = wr.heap.size + 1 := fun o => by simp
  refine ⟨?_, h.2.trans (hb.mono h.2.size)⟩
  rw [refs_drop S k n hk]
  refine ⟨wr.heap.size + 1, hd, _, q, rfl, by omega, ?_, pr_ref _ _ false wr.heap.size 0 (S k) ?_ (by omega) hsz ha, fun a hq => ?_, h.1.mono hb (by omega)⟩
  · have := heap_alloc_new (wr.alloc (.cells #[.int .i64 0, .string (S k)] 59)) (.cells #[.bool hd, .iface 44 (.pointer (some ⟨wr.heap.size, 0, none⟩)), .pointer q] 63)
    rw [hs1] at this
    exact this
  · unfold RefAt linked
    rw [heap_alloc_old _ _ (by simp)]
    exact heap_alloc_new _ _
  · have := h.1.head_lt a hq
    omega
theorem want_step {S : Nat → ByteArray} {k : Nat} (hk : k ≠ 0) : seqTxt (refs S k) ++ ⟨#[32]⟩ ++ refTxt (S k) = seqTxt (refs S (k + 1)) := by
  rw [refs_succ, seqTxt_snoc]
  intro h
  have := refs_len S k
  rw [h] at this
  simp at this
  omega
theorem want_first (S : Nat → ByteArray) : (⟨#[]⟩ : ByteArray) ++ refTxt (S 0) = seqTxt (refs S 1) := by
  rw [empty_app]
  rfl
end Go.Proofs.YtfmlfaankmnfjaaGreatFmt

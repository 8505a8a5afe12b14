import Derived.Test.Qxb6602245aClone
import Derived.Test.Qxb6602245aScript
namespace Go.Proofs.Qxb6602245a
open Go.RowKit

theorem four_set {α : Type} {xs ys : List α} {m : Nat} {v0 v1 v2 v3 : α} (hl : xs.length = m + 4) (h : xs.take m = ys) : (((xs.set m v0).set (m + 1) v1).set (m + 2) v2).set (m + 3) v3 = ys ++ [v0, v1, v2, v3] := by
  have hy : ys.length = m := by rw [← h, List.length_take]; omega
  have e : xs = ys ++ xs.drop m := by rw [← h, List.take_append_drop]
  have hd : (xs.drop m).length = 4 := by rw [List.length_drop]; omega
  obtain ⟨x0, x1, x2, x3, hx⟩ : ∃ x0 x1 x2 x3, xs.drop m = [x0, x1, x2, x3] := by
    match xs.drop m, hd with
    | [p, q, r, s], _ => exact ⟨p, q, r, s, rfl⟩
  rw [hx] at e
  rw [e, ← hy]
  simp

theorem or32 (V x : Nat) (hx : x < 256) : bits .or .u32 ((V : Int) * 256 % 4294967296) (x : Int) = ((V * 256 % 4294967296 + x : Nat) : Int) := by
  have e : (V : Int) * 256 % 4294967296 = ((V * 256 % 4294967296 : Nat) : Int) := by omega
  rw [e, u32_or_nat (V * 256 % 4294967296) x (Nat.mod_lt _ (by decide)) (by omega), nat_join 8 _ _ (by omega) hx]

theorem mid_walk2 {lo hi p : Nat} (h : lo < hi) (hh : hi < 4294967296) (hp : p ≤ 65535) : (lo : Int) + IntKind.u64.wrap (((hi : Int) - lo) * p) / 65536 % 4294967296 = ((Coder.mid lo hi p : Nat) : Int) := by
  have hb := Coder.mid_bounds h hp
  unfold Coder.mid at hb ⊢
  have e : (((hi : Int) - lo) * p) = (((hi - lo) * p : Nat) : Int) := by rw [Int.natCast_mul, Int.natCast_sub (by omega)]
  have hm : (hi - lo) * p ≤ 4294967295 * 65535 := Nat.mul_le_mul (by omega) hp
  rw [e]
  generalize (hi - lo) * p = X at hm hb ⊢
  rw [IntKind.wrap_u64]
  omega

namespace Coder
/-- The decoder at a step of the script. -/
structure At (lo hi : Nat) (S : List (Bool × Nat)) (t a b off : Nat) : Prop where
  bytes : ∃ bs, run lo hi (S.take t) = (bs, a, b) ∧ off = bs.length

theorem At.start (lo hi : Nat) (S : List (Bool × Nat)) : At lo hi S 0 lo hi 0 := ⟨[], rfl, rfl⟩
theorem At.good {lo hi t a b off : Nat} {S : List (Bool × Nat)} (h : At lo hi S t a b off) (hlh : lo < hi) (hh : hi < 4294967296) (hg : Good S) : a < b ∧ b < 4294967296 := by
  obtain ⟨bs, e, _⟩ := h.bytes
  have := run_ok (S.take t) lo hi hlh hh (fun x hx => hg x (List.mem_of_mem_take hx))
  rw [e] at this
  exact ⟨this.1, this.2.1⟩
theorem At.left {lo hi t a b off : Nat} {S : List (Bool × Nat)} (h : At lo hi S t a b off) : (Coder.left lo hi S).drop off = Coder.left a b (S.drop t) := by
  obtain ⟨bs, e, rfl⟩ := h.bytes
  have := left_drop S lo hi t
  rwa [e] at this
theorem drop_at {α : Type} {S : List α} {t : Nat} {x : α} (h : S[t]? = some x) : S.drop t = x :: S.drop (t + 1) := by
  obtain ⟨hl, he⟩ := List.getElem?_eq_some_iff.1 h
  rw [← he, List.drop_eq_getElem_cons hl]
theorem At.facts {lo hi t a b off p : Nat} {y : Bool} {S : List (Bool × Nat)} (h : At lo hi S t a b off) (hlh : lo < hi) (hh : hi < 4294967296) (hg : Good S) (hx : S[t]? = some (y, p)) :
    a ≤ win ((Coder.left lo hi S).drop off) ∧ win ((Coder.left lo hi S).drop off) ≤ b ∧ (win ((Coder.left lo hi S).drop off) ≤ mid a b p ↔ y = true) := by
  have hgd := h.good hlh hh hg
  have hd := drop_at hx
  have hg' : Good (S.drop t) := fun x hx => hg x (List.mem_of_mem_drop hx)
  rw [h.left]
  have w := left_win (S.drop t) a b hgd.1 hgd.2 hg'
  refine ⟨w.1, w.2, ?_⟩
  rw [hd] at hg' ⊢
  have := left_bit (y, p) (S.drop (t + 1)) a b hgd.1 hgd.2 hg'
  rw [this]
theorem At.next {lo hi t a b off p a2 b2 : Nat} {y : Bool} {bn : List UInt8} {S : List (Bool × Nat)} (h : At lo hi S t a b off) (hx : S[t]? = some (y, p)) (he : enc a b p y = (bn, a2, b2)) : At lo hi S (t + 1) a2 b2 (off + bn.length) := by
  obtain ⟨bs, e, rfl⟩ := h.bytes
  refine ⟨bs ++ bn, ?_, by simp⟩
  rw [run_take_succ S lo hi t _ hx, e]
  dsimp only
  rw [he]
theorem At.le {lo hi t a b off : Nat} {S : List (Bool × Nat)} (h : At lo hi S t a b off) : off ≤ (run lo hi S).1.length := by
  obtain ⟨bs, e, rfl⟩ := h.bytes
  have := run_append (S.take t) (S.drop t) lo hi
  rw [List.take_append_drop, e] at this
  rw [this]
  simp
theorem At.last {lo hi a b off : Nat} {S : List (Bool × Nat)} (h : At lo hi S S.length a b off) : run lo hi S = ((run lo hi S).1, a, b) ∧ off = (run lo hi S).1.length := by
  obtain ⟨bs, e, rfl⟩ := h.bytes
  rw [List.take_length] at e
  rw [e]
  exact ⟨rfl, rfl⟩

/-- One byte leaves. -/
theorem norm_step {R : List UInt8 × Nat × Nat} {bs : List UInt8} {f a b : Nat} (hR : R = (bs ++ (norm f a b).1, (norm f a b).2)) (ht : top b = top a) (hs : Stops f a b) (hl : bs.length + f = 4) (hab : a ≤ b) :
    ∃ f', (bs ++ [byteOf b]).length + f' = 4 ∧ stepLo a ≤ stepHi b ∧ stepHi b < 4294967296 ∧ Stops f' (stepLo a) (stepHi b) ∧ R = ((bs ++ [byteOf b]) ++ (norm f' (stepLo a) (stepHi b)).1, (norm f' (stepLo a) (stepHi b)).2) ∧ bs.length + 1 ≤ R.1.length := by
  cases f with
  | zero => exact absurd ht hs
  | succ f =>
    have := step_le hab ht
    rw [norm_go ht] at hR
    refine ⟨f, by simp; omega, this.1, this.2, hs ht, by rw [hR]; simp, ?_⟩
    rw [hR]
    simp
theorem win_next {s : List UInt8} {q : Nat} {c : UInt8} (h : s[q + 4]? = some c) : win (s.drop (q + 1)) = win (s.drop q) * 256 % 4294967296 + c.toNat := by
  have := win_tail (s := s.drop q) (c := c) (by rw [List.getElem?_drop]; exact h)
  rwa [List.tail_drop] at this
end Coder
end Go.Proofs.Qxb6602245a

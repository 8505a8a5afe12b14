import Derived.Test.Qxb6602245aProg
import Derived.Test.Qxb6602245aKit
import Derived.Test.Qxb6602245aCoder
import Derived.Deep.RegionLaw
import Derived.Maps.AppendAt
import Derived.BigRegion
namespace Go.Proofs.Qxb6602245a
open Go.RowKit
theorem Try.info5 : (Try.prog.info? 5).map (fun i => (i.zero, i.size, i.bytes)) = some (some (.int .u8 0), 1, 1) := by kernel_rfl

/-- 'append' onto the output, as one step of a region that draws its order. -/
theorem step_append_outs {P : Program} {ops : Array Oper} {o : Oper} {a : Act} {w : World} {K : Act → World → Prop} {Q : Exit → Act → World → Prop} {F : Prop}
    (hg : o.guard = none) (s x : Operand) (t : TypeId) (hop : o.op = Op.call { callee := Callee.builtin Builtin.append, args := #[s, x], argTypes := #[t, t] })
    (B : Nat) (i : TypeInfo) (ht : P.underlying t = some (.slice 5)) (hi : P.info? 5 = some i) (hz : i.zero = some (.int .u8 0)) (hsize : i.size = 1) (hby : i.bytes = 1)
    (v : Value) (l : List UInt8) (hs : a.eval s = v) (ho : Outs B w v l) (ad : Addr) (c : Nat) (b : UInt8) (hx : a.eval x = .slice (some ad) 1 c) (hnews : ∀ j u, [Value.int .u8 b.toNat][j]? = some u → w.cell? (ad.add j) = some u) (hl : l.length ≤ 4000000) (hB : B ≤ w.heap.size)
    (hK : ∀ v' w' row, w'.ownsRow B 5 1 v' (l ++ [b]).length (Lib.byteCells (l ++ [b])) → w.grownBy w' row → (∀ k, row = some k → B ≤ k ∧ v.ownBlock = some k) → K (a.put o.dst v') w') :
    if Region.wanted o (yielded ops a.tmps) = true then Oper.wp P o a w K Q else F := by
  have hw : Region.wanted o (yielded ops a.tmps) = true := by simp [Region.wanted, hg]
  rw [if_pos hw]
  obtain ⟨v', w', row, hrun, r1, r2, r3⟩ := run_append_outs (P := P) w B t o.type i ht hi hz hsize hby v l ho ad c b hnews hl hB
  unfold Oper.wp
  simp [execOp, hop, resolve, invoke, builtin, hs, hx, hrun, Result.andThen]
  exact hK v' w' row r1 r2 r3

theorem le_alloc {w : World} {B n : Nat} {o : Obj} (h : B ≤ w.heap.size) : B ≤ ((w.drewN n).alloc o).heap.size := by simp; omega
theorem owns_form {B n : Nat} {w : World} {v : Value} {l : List UInt8} {b : UInt8} (h : w.ownsRow B 5 1 v n (Lib.byteCells (l ++ [b]))) : ∃ g cap, v = .slice (some ⟨g, 0, none⟩) n cap := by
  rcases h.2 with ⟨_, h0⟩ | ⟨g, cap, _, e, _⟩
  · have := h.1
    rw [bc_len] at this
    simp at this
    omega
  · exact ⟨g, cap, e⟩
theorem hide_len {B : Nat} {w : World} {v : Value} {l : List UInt8} {xs : List Value} (h : w.ownsRow B 5 1 v l.length xs) : ∃ N, Hid (N = l.length) ∧ w.ownsRow B 5 1 v N xs := ⟨_, rfl, h⟩
theorem ret_world {B E N : Nat} {w w2 : World} {x y u v : Value} {l : List UInt8} (hB : B ≤ E) (hb : Below B w w2) (hE : w2.heap[E]? = some (.cells #[x, y, u] 52 (0, 0))) (ho : w2.ownsRow B 5 1 v N (Lib.byteCells l)) (hN : N = l.length) (H A : Value) :
    (((w2.setCell ⟨E, 2, none⟩ v).setCell ⟨E, 1, none⟩ H).setCell ⟨E, 0, none⟩ A).heap[E]? = some (.cells #[A, H, v] 52 (0, 0)) ∧ Outs B (((w2.setCell ⟨E, 2, none⟩ v).setCell ⟨E, 1, none⟩ H).setCell ⟨E, 0, none⟩ A) v l ∧ Below B w (((w2.setCell ⟨E, 2, none⟩ v).setCell ⟨E, 1, none⟩ H).setCell ⟨E, 0, none⟩ A) := by
  subst hN
  have hne := owns_ne ho hE
  have e1 := heap_setCell_same w2 E 2 _ 52 v hE
  have e2 := heap_setCell_same _ E 1 _ 52 H e1
  have e3 := heap_setCell_same _ E 0 _ 52 A e2
  have o1 : Outs B w2 v l := .inr ho
  exact ⟨e3, ((o1.setCell hB hne v).setCell hB hne H).setCell hB hne A, ((hb.setCell hB v).setCell hB H).setCell hB A⟩
theorem ret_world2 {B E N : Nat} {w w2 : World} {x y u v : Value} {l : List UInt8} (hB : B ≤ E) (hb : Below B w w2) (hE : w2.heap[E]? = some (.cells #[x, y, u] 52 (0, 0))) (ho : w2.ownsRow B 5 1 v N (Lib.byteCells l)) (hN : N = l.length) (H A A' : Value) :
    ((((w2.setCell ⟨E, 2, none⟩ v).setCell ⟨E, 1, none⟩ H).setCell ⟨E, 0, none⟩ A).setCell ⟨E, 0, none⟩ A').heap[E]? = some (.cells #[A', H, v] 52 (0, 0)) ∧ Outs B ((((w2.setCell ⟨E, 2, none⟩ v).setCell ⟨E, 1, none⟩ H).setCell ⟨E, 0, none⟩ A).setCell ⟨E, 0, none⟩ A') v l ∧ Below B w ((((w2.setCell ⟨E, 2, none⟩ v).setCell ⟨E, 1, none⟩ H).setCell ⟨E, 0, none⟩ A).setCell ⟨E, 0, none⟩ A') := by
  obtain ⟨e, o, b⟩ := ret_world hB hb hE ho hN H A
  have hne := owns_ne ho hE
  exact ⟨heap_setCell_same _ E 0 _ 52 A' e, o.setCell hB hne A', b.setCell hB A'⟩
theorem block_kept {w w2 : World} {E n : Nat} {o o' : Obj} {row : Option Nat} (h : w.heap[E]? = some o') (hg : ((w.drewN n).alloc o).grownBy w2 row) (hne : row ≠ some E) : w2.heap[E]? = some o' := by
  have hlt := (Array.getElem?_eq_some_iff.1 h).1
  rw [hg.block E (by simp; omega) (fun e => hne e.symm)]
  show (w.heap.push o)[E]? = _
  rw [Array.getElem?_push, if_neg (by omega)]
  exact h
def outLen (w : World) (E : Nat) : Nat := match w.cell? ⟨E, 2, none⟩ with | some (.slice _ n _) => n | _ => 0
theorem outLen_of {w : World} {E : Nat} {x y v : Value} {l : List UInt8} {B : Nat} (hE : w.heap[E]? = some (.cells #[x, y, v] 52 (0, 0))) (ho : Outs B w v l) : outLen w E = l.length := by
  obtain ⟨r, c, rfl, _⟩ := ho.row
  unfold outLen
  rw [cell_of_row w E 2 _ 52 (0, 0) hE]
  rfl
theorem or_walk (b : Nat) : bits .or .u32 ((b : Int) * 256 % 4294967296) 255 = ((Coder.stepHi b : Nat) : Int) := by
  have e : (b : Int) * 256 % 4294967296 = ((b * 256 % 4294967296 : Nat) : Int) := by omega
  have h := u32_or_nat (b * 256 % 4294967296) 255 (by omega) (by decide)
  rw [e]
  refine Eq.trans h ?_
  rw [nat_join 8 _ _ (by omega) (by decide)]
  rfl
theorem mid_walk {lo hi p : Nat} (h : lo < hi) (hh : hi < 4294967296) (hp : p ≤ 65535) : ((lo : Int) + IntKind.u64.wrap (((hi : Int) - lo) * p) / 65536 % 4294967296) % 4294967296 = ((Coder.mid lo hi p : Nat) : Int) := by
  have hb := Coder.mid_bounds h hp
  unfold Coder.mid at hb ⊢
  have e : (((hi : Int) - lo) * p) = (((hi - lo) * p : Nat) : Int) := by rw [Int.natCast_mul, Int.natCast_sub (by omega)]
  have hm : (hi - lo) * p ≤ 4294967295 * 65535 := Nat.mul_le_mul (by omega) hp
  rw [e]
  generalize (hi - lo) * p = X at hm hb ⊢
  rw [IntKind.wrap_u64]
  omega
/-- What a round that emits a byte does to the plain side of the loop's relation. -/
theorem next_rel {B E a b f : Nat} {wr : World} {x y v : Value} {l bs : List UInt8} {c : UInt8} {R : List UInt8 × Nat × Nat} (hE : wr.heap[E]? = some (.cells #[x, y, v] 52 (0, 0))) (ho : Outs B wr v (l ++ bs)) (ht : Coder.top b = Coder.top a) (hst : Coder.Stops f a b)
    (hR : R = (bs ++ (Coder.norm f a b).1, (Coder.norm f a b).2)) (hc : c = Coder.byteOf b) (hab : a ≤ b) (hbf : bs.length + f = 4) :
    ∃ f', (bs ++ [c]).length + f' = 4 ∧ Coder.stepLo a ≤ Coder.stepHi b ∧ Coder.stepHi b < 4294967296 ∧ Coder.Stops f' (Coder.stepLo a) (Coder.stepHi b) ∧
      R = ((bs ++ [c]) ++ (Coder.norm f' (Coder.stepLo a) (Coder.stepHi b)).1, (Coder.norm f' (Coder.stepLo a) (Coder.stepHi b)).2) ∧ l.length + 5 - (l ++ (bs ++ [c])).length < l.length + 5 - outLen wr E := by
  cases f with
  | zero => exact absurd ht hst
  | succ f' =>
    have hsl := Coder.step_le hab ht
    refine ⟨f', by simp; omega, hsl.1, hsl.2, hst ht, ?_, ?_⟩
    · rw [hR, Coder.norm_go ht, hc]
      simp
    · rw [outLen_of hE ho]
      simp
      omega

end Go.Proofs.Qxb6602245a

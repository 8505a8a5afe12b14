import Derived.Test.Qxb6602245aClone
import Derived.Test.Qxb6602245aEndByte
namespace Go.Proofs.Qxb6602245a
open Go.RowKit
theorem Try.info24 : (Try.prog.info? 24).map (fun i => (i.zero, i.size, i.bytes)) = some (some (.int .u32 0), 1, 4) := by kernel_rfl

theorem ofInt_i64 (a : Nat) (ha : a < 4294967296) : (BitVec.ofInt 64 (a : Int)).toNat = a := by
  rw [BitVec.ofInt_natCast, BitVec.toNat_ofNat]
  exact Nat.mod_eq_of_lt (by omega)
theorem i64_and_nat (a b : Nat) (ha : a < 4294967296) (hb : b < 4294967296) : bits .and .i64 (a : Int) (b : Int) = ((a &&& b : Nat) : Int) := by
  have hx : a &&& b < 2 ^ 32 := Nat.and_lt_two_pow _ (by omega)
  show IntKind.i64.wrap ((BitVec.ofInt 64 (a : Int) &&& BitVec.ofInt 64 (b : Int)).toNat : Int) = _
  rw [BitVec.toNat_and, ofInt_i64 a ha, ofInt_i64 b hb, IntKind.wrap_i64]
  omega

/-- What zzb1IsPow2 tells. -/
def Pow2Ok (b : Bool) (n : Nat) : Prop := b = true → ∃ a, n = 2 ^ a

set_option maxHeartbeats 400000 in
theorem isPow2_any (n : Nat) (w : World) (hm : n ≤ 1048576) : Calls Try.prog 14 #[.int .i64 n] w fun e w' => ∃ b, e = .returned (.bool b) ∧ Pow2Ok b n ∧ w' = w := by
  by_cases g : 0 < n
  · by_cases g2 : n &&& (n - 1) = 0
    · have hb : bits .and .i64 (n : Int) ((n : Int) - 1) = 0 := by
        rw [show (n : Int) - 1 = ((n - 1 : Nat) : Int) by omega, i64_and_nat n (n - 1) (by omega) (by omega), g2]
        rfl
      go_enter Try.func14, Try.ntmps14
      go_wp2
      go_ret
      exact ⟨_, rfl, fun _ => Match.pow2_of_and n g g2, rfl⟩
    · obtain ⟨v, hv⟩ : ∃ v, v = n &&& (n - 1) := ⟨_, rfl⟩
      have hb : bits .and .i64 (n : Int) ((n : Int) - 1) = (v : Int) := by
        rw [show (n : Int) - 1 = ((n - 1 : Nat) : Int) by omega, i64_and_nat n (n - 1) (by omega) (by omega), hv]
      have hv0 : ¬ v = 0 := by rw [hv]; exact g2
      clear hv
      go_enter Try.func14, Try.ntmps14
      go_wp2
      go_ret
      exact ⟨_, rfl, (fun h => by simp at h; omega), rfl⟩
  · go_enter Try.func14, Try.ntmps14
    go_wp2
    go_ret
    exact ⟨_, rfl, (fun h => by simp at h), rfl⟩

set_option maxHeartbeats 800000 in
theorem zzBytesMatch_any (a1 a2 a3 : Option Addr) (n1 n2 n3 c1 c2 c3 : Nat) (x2 x3 x4 x5 x6 : Int) (w : World) (h1 : n1 ≤ maxLen) (h2 : n2 ≤ maxLen) (h3 : n3 ≤ maxLen) :
    Calls Try.prog 13 #[.slice a1 n1 c1, .slice a2 n2 c2, .int .u32 x2, .int .u32 x3, .int .u32 x4, .int .u32 x5, .int .u64 x6, .slice a3 n3 c3] w fun e w' => SomeBool e ∧ w' = w := by
  unfold maxLen at *
  by_cases g1 : 1048576 < n1
  · go_enter Try.func13, Try.ntmps13
    go_wp2
    go_ret
    exact ⟨⟨_, rfl⟩, rfl⟩
  by_cases g2 : 1048576 < n2
  · go_enter Try.func13, Try.ntmps13
    go_wp2
    go_ret
    exact ⟨⟨_, rfl⟩, rfl⟩
  by_cases g3 : 1048576 < n1 + n2
  · go_enter Try.func13, Try.ntmps13
    go_wp2
    go_ret
    exact ⟨⟨_, rfl⟩, rfl⟩
  by_cases g4 : 1048576 < n3
  · go_enter Try.func13, Try.ntmps13
    go_wp2
    go_ret
    exact ⟨⟨_, rfl⟩, rfl⟩
  by_cases g5 : 1048576 < n1 + n2 + n3
  · go_enter Try.func13, Try.ntmps13
    go_wp2
    go_ret
    exact ⟨⟨_, rfl⟩, rfl⟩
  go_enter Try.func13, Try.ntmps13
  go_wp2
  go_ret
  exact ⟨⟨_, rfl⟩, rfl⟩

set_option maxHeartbeats 400000 in
/-- zzb1CloneU8 of a slice that is not nil: a new block, and where it lies. -/
theorem cloneU8_new (a : Addr) (n cap : Nat) (l : List UInt8) (w : World) (hn : l.length = n) (hb : n ≤ 1048576) (hrow : Row w (some a) (Lib.byteCells l)) :
    Calls Try.prog 9 #[.slice (some a) n cap] w fun e w' => e = .returned (.slice (some ⟨w.heap.size, 0, none⟩) n n) ∧ Row w' (some ⟨w.heap.size, 0, none⟩) (Lib.byteCells l) ∧ Below w.heap.size w w' ∧ w.heap.size < w'.heap.size := by
  obtain ⟨i0, hi, hz0, hz1, hz2⟩ := info_parts Try.info5
  have q22 : ∀ (w : World) (a : Option Addr) (n c n' c' : Nat), (binOp .eql 22 (.slice a n c) (.slice none n' c')).run Try.prog w = .ok (.bool a.isNone) w := fun w a n c n' c' => Lib.run_eql_slice_nil w _ _ a n c n' c' Try.underlying22
  go_enter Try.func9, Try.ntmps9
  go_wp2_with (at_make; refine wpList_make_full _ rfl _ _ 22 rfl w.heap.size 5 i0 (.int .u8 0) 1 Try.underlying22 hi hz0 hz1 _ _ _ _ n rfl rfl rfl rfl ?b2 ?b3 (Nat.le_refl _) ?_)
  case b2 => rw [hz2]; omega
  case b3 => unfold maxLen; omega
  intro w0 hown0 hgrow0
  go_wp2
  go_loopw [4] (fun i wr => ∃ (k : Nat) (xs : List Value), k ≤ n ∧ i = .int .i64 k ∧ xs.take k = (Lib.byteCells l).take k ∧ wr.ownsRow w.heap.size 5 1 (.slice (some ⟨w.heap.size, 0, none⟩) n n) n xs ∧ Below w.heap.size w wr ∧ w.heap.size < wr.heap.size)
    (fun i _ => n - (intOf i).toNat)
  case atStart => exact ⟨0, _, Nat.zero_le _, rfl, by simp, hown0, (Below.refl _ _).grown hgrow0 (Nat.le_refl _) (fun k h => by cases h), (hown0.lt _ rfl).2⟩
  case round =>
    obtain ⟨k, xs, hk, rfl, htk, hown, hnx, hsz⟩ := hrel
    by_cases hlt : k < n
    · obtain ⟨b, off, ea⟩ := hrow.shape (by omega)
      cases ea
      obtain ⟨c, hc⟩ : ∃ c, l[k]? = some c := ⟨l[k], List.getElem?_eq_getElem _⟩
      have hck := (hrow.below hnx (Nat.le_refl _)).byte hc
      have hzk : (Lib.byteCells l)[k]? = some (.int .u8 c.toNat) := by rw [bc_get, hc]; rfl
      have hxl : xs.length = n := by have := hown.1; omega
      have hcx := hown.cellAt k (by omega)
      rw [List.getElem?_eq_getElem (by omega)] at hcx
      have hfz := hown.frozenAt k
      have HS := hown.stored k (.int .u8 c.toNat)
      have HT : Hid ((xs.set k (.int .u8 c.toNat)).take (k + 1) = (Lib.byteCells l).take (k + 1)) := take_set_snoc htk (by omega) hzk
      clear hown htk hzk hc
      go_wp2
      go_roundw
      case rel => exact ⟨k + 1, _, by omega, by go_num, HT, HS.1, hnx.setCell (Nat.le_refl _) _, by simpa using hsz⟩
      case measure => simp [intOf]; omega
    · have : k = n := by omega
      subst this
      have hxs : xs = Lib.byteCells l := by
        have h1 := hown.1
        rw [List.take_of_length_le (by omega), List.take_of_length_le (by rw [bc_len]; omega)] at htk
        exact htk
      subst hxs
      obtain ⟨r, c, er, R, hrn⟩ := Row.of_owns hown
      cases er
      go_wp2
      go_ret
      exact ⟨rfl, R, hnx, hsz⟩

set_option maxHeartbeats 400000 in
/-- zzb1CloneU32 of a slice that is not nil. -/
theorem cloneU32_new (a : Addr) (n cap : Nat) (l : List Nat) (w : World) (hn : l.length = n) (hb : n ≤ 1048576) (hrow : Row w (some a) (words l)) :
    Calls Try.prog 15 #[.slice (some a) n cap] w fun e w' => e = .returned (.slice (some ⟨w.heap.size, 0, none⟩) n n) ∧ w'.ownsRow w.heap.size 24 1 (.slice (some ⟨w.heap.size, 0, none⟩) n n) n (words l) ∧ Below w.heap.size w w' ∧ w.heap.size < w'.heap.size := by
  obtain ⟨i0, hi, hz0, hz1, hz2⟩ := info_parts Try.info24
  have q31 : ∀ (w : World) (a : Option Addr) (n c n' c' : Nat), (binOp .eql 31 (.slice a n c) (.slice none n' c')).run Try.prog w = .ok (.bool a.isNone) w := fun w a n c n' c' => Lib.run_eql_slice_nil w _ _ a n c n' c' Try.underlying31
  go_enter Try.func15, Try.ntmps15
  go_wp2_with (at_make; refine wpList_make_full _ rfl _ _ 31 rfl w.heap.size 24 i0 (.int .u32 0) 1 Try.underlying31 hi hz0 hz1 _ _ _ _ n rfl rfl rfl rfl ?b2 ?b3 (Nat.le_refl _) ?_)
  case b2 => rw [hz2]; omega
  case b3 => unfold maxLen; omega
  intro w0 hown0 hgrow0
  go_wp2
  go_loopw [4] (fun i wr => ∃ (k : Nat) (xs : List Value), k ≤ n ∧ i = .int .i64 k ∧ xs.take k = (words l).take k ∧ wr.ownsRow w.heap.size 24 1 (.slice (some ⟨w.heap.size, 0, none⟩) n n) n xs ∧ Below w.heap.size w wr ∧ w.heap.size < wr.heap.size)
    (fun i _ => n - (intOf i).toNat)
  case atStart => exact ⟨0, _, Nat.zero_le _, rfl, by simp, hown0, (Below.refl _ _).grown hgrow0 (Nat.le_refl _) (fun k h => by cases h), (hown0.lt _ rfl).2⟩
  case round =>
    obtain ⟨k, xs, hk, rfl, htk, hown, hnx, hsz⟩ := hrel
    by_cases hlt : k < n
    · obtain ⟨b, off, ea⟩ := hrow.wshape (by omega)
      cases ea
      obtain ⟨c, hc⟩ : ∃ c, l[k]? = some c := ⟨l[k], List.getElem?_eq_getElem _⟩
      have hck := (hrow.below hnx (Nat.le_refl _)).word hc
      have hzk := words_get hc
      have hxl : xs.length = n := by have := hown.1; omega
      have hcx := hown.cellAt k (by omega)
      rw [List.getElem?_eq_getElem (by omega)] at hcx
      have hfz := hown.frozenAt k
      have HS := hown.stored k (.int .u32 (c : Int))
      have HT : Hid ((xs.set k (.int .u32 (c : Int))).take (k + 1) = (words l).take (k + 1)) := take_set_snoc htk (by omega) hzk
      clear hown htk hzk hc
      go_wp2
      go_roundw
      case rel => exact ⟨k + 1, _, by omega, by go_num, HT, HS.1, hnx.setCell (Nat.le_refl _) _, by simpa using hsz⟩
      case measure => simp [intOf]; omega
    · have : k = n := by omega
      subst this
      have hxs : xs = words l := by
        have h1 := hown.1
        rw [List.take_of_length_le (by omega), List.take_of_length_le (by rw [words_len]; omega)] at htk
        exact htk
      subst hxs
      go_wp2
      go_ret
      exact ⟨rfl, hown, hnx, hsz⟩

set_option maxHeartbeats 400000 in
/-- zzb1EqualU8 of two rows of the same bytes. -/
theorem equalU8_same (a b : Addr) (n c1 c2 : Nat) (l : List UInt8) (w : World) (hn : l.length = n) (hb : n ≤ 1048576) (h1 : Row w (some a) (Lib.byteCells l)) (h2 : Row w (some b) (Lib.byteCells l)) :
    Calls Try.prog 11 #[.slice (some a) n c1, .slice (some b) n c2] w fun e w' => e = .returned (.bool true) ∧ Below w.heap.size w w' := by
  go_enter Try.func11, Try.ntmps11
  go_wp2
  go_loopw [5] (fun ii wr => ∃ k : Nat, k ≤ n ∧ ii = .int .i64 k ∧ ∃ nq, wr = w.drewN nq) (fun ii _ => n - (intOf ii).toNat)
  case atStart => exact ⟨0, Nat.zero_le _, rfl, 0, rfl⟩
  case round =>
    obtain ⟨k, hk, rfl, nq, rfl⟩ := hrel
    by_cases hlt : k < n
    · obtain ⟨c, hc⟩ : ∃ c, l[k]? = some c := ⟨l[k]'(by omega), List.getElem?_eq_getElem _⟩
      obtain ⟨bb, oo, e1⟩ := h1.shape (by omega)
      obtain ⟨bo, oof, e2⟩ := h2.shape (by omega)
      cases e1
      cases e2
      have x1 := h1.byte hc
      have x2 := h2.byte hc
      clear hc
      go_wp2
      go_quiet (fail)
      go_wp2
      go_roundw
      case rel => exact ⟨k + 1, by omega, by go_num, _, rfl⟩
      case measure => simp [intOf]; omega
    · go_wp2
      go_ret
      exact ⟨rfl, below_drewN (Below.refl _ _) _⟩
end Go.Proofs.Qxb6602245a

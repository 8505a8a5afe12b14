import Derived.Test.Qxb6602245aZZEncode
namespace Go.Proofs.Qxb6602245a
open Go.RowKit
/-- The slice's array is one of the world's blocks. -/
def InHeap (r : Option Addr) (w : World) : Prop := ∀ x : Addr, r = some x → x.block < w.heap.size

/-- A fresh copy, as the output that a coder is handed. -/
theorem outs_of_clone {w w' : World} {r : Option Addr} {l : List UInt8} (hn : NilOk r l.length) (hh : InHeap r w) (hr : Row w r (Lib.byteCells l)) (hb : Below w.heap.size w w') : Outs w'.heap.size w' (.slice r l.length l.length) l :=
  .inl ⟨r, rfl, hn, fun x hx => Nat.lt_of_lt_of_le (hh x hx) hb.size, fun _ hb2 => (hr.below hb (Nat.le_refl _)).below hb2 (Nat.le_refl _)⟩

set_option maxHeartbeats 400000 in
/-- zzb1CloneU8: a fresh copy with no spare room; nil stays nil. -/
theorem cloneU8_any (ao : Option Addr) (n cap : Nat) (l : List UInt8) (w : World) (hn : l.length = n) (hb : n ≤ 1048576) (hrow : Row w ao (Lib.byteCells l)) (hnil : ao = none → n = 0 ∧ cap = 0) :
    Calls Try.prog 9 #[.slice ao n cap] w fun e w' => ∃ r, e = .returned (.slice r n n) ∧ NilOk r n ∧ InHeap r w' ∧ Row w' r (Lib.byteCells l) ∧ Below w.heap.size w w' := by
  obtain ⟨i0, hi, hz0, hz1, hz2⟩ := info_parts Try.info5
  have q22 : ∀ (w : World) (a : Option Addr) (n c n' c' : Nat), (binOp .eql 22 (.slice a n c) (.slice none n' c')).run Try.prog w = .ok (.bool a.isNone) w := fun w a n c n' c' => Lib.run_eql_slice_nil w _ _ a n c n' c' Try.underlying22
  cases ao with
  | none =>
    obtain ⟨h1, h2⟩ := hnil rfl
    subst h1 h2
    have hz : l = [] := List.eq_nil_of_length_eq_zero hn
    subst hz
    go_enter Try.func9, Try.ntmps9
    go_wp2
    go_ret
    exact ⟨_, rfl, fun _ => rfl, (fun x h => by cases h), Row.nil _ _, Below.refl _ _⟩
  | some a =>
    go_enter Try.func9, Try.ntmps9
    go_wp2_with (at_make; refine wpList_make_full _ rfl _ _ 22 rfl w.heap.size 5 i0 (.int .u8 0) 1 Try.underlying22 hi hz0 hz1 _ _ _ _ n rfl rfl rfl rfl ?b2 ?b3 (Nat.le_refl _) ?_)
    case b2 => rw [hz2]; omega
    case b3 => unfold maxLen; omega
    intro w0 hown0 hgrow0
    go_wp2
    go_loopw [4] (fun i wr => ∃ (k : Nat) (xs : List Value), k ≤ n ∧ i = .int .i64 k ∧ xs.take k = (Lib.byteCells l).take k ∧ wr.ownsRow w.heap.size 5 1 (.slice (some ⟨w.heap.size, 0, none⟩) n n) n xs ∧ Below w.heap.size w wr ∧ w.heap.size < wr.heap.size)
      (fun i _ => n - (intOf i).toNat)
    case atStart => exact ⟨0, _, Nat.zero_le _, rfl, by simp, hown0, (Below.refl _ _).grown hgrow0 (Nat.le_refl _) (fun k h => by cases h), (hown0.lt _ rfl).2⟩
    case round =>
      obtain ⟨k, xs, hk, rfl, htk, hown, hnx, hsz⟩ := hrel
      by_cases hlt : k < n
      · obtain ⟨b, off, ea⟩ := hrow.shape (by omega)
        cases ea
        obtain ⟨c, hc⟩ : ∃ c, l[k]? = some c := ⟨l[k], List.getElem?_eq_getElem _⟩
        have hck := (hrow.below hnx (Nat.le_refl _)).byte hc
        have hzk : (Lib.byteCells l)[k]? = some (.int .u8 c.toNat) := by rw [bc_get, hc]; rfl
        have hxl : xs.length = n := by have := hown.1; omega
        have hcx := hown.cellAt k (by omega)
        rw [List.getElem?_eq_getElem (by omega)] at hcx
        have hfz := hown.frozenAt k
        have HS := hown.stored k (.int .u8 c.toNat)
        have HT : Hid ((xs.set k (.int .u8 c.toNat)).take (k + 1) = (Lib.byteCells l).take (k + 1)) := take_set_snoc htk (by omega) hzk
        clear hown htk hzk hc
        go_wp2
        go_roundw
        case rel => exact ⟨k + 1, _, by omega, by go_num, HT, HS.1, hnx.setCell (Nat.le_refl _) _, by simpa using hsz⟩
        case measure => simp [intOf]; omega
      · have : k = n := by omega
        subst this
        have hxs : xs = Lib.byteCells l := by
          have h1 := hown.1
          rw [List.take_of_length_le (by omega), List.take_of_length_le (by rw [bc_len]; omega)] at htk
          exact htk
        subst hxs
        obtain ⟨r, c, er, R, hrn⟩ := Row.of_owns hown
        cases er
        go_wp2
        go_ret
        exact ⟨_, rfl, hrn, (fun x h => by cases h; exact hsz), R, hnx⟩


set_option maxHeartbeats 400000 in
theorem zzBytesNarrow_any (a b : Int) (ao : Option Addr) (n cap : Nat) (y p : Int) (w : World) (hm : n ≤ maxLen) :
    Calls Try.prog 19 #[.int .u32 a, .int .u32 b, .slice ao n cap, .int .i64 y, .int .u32 p] w fun e w' => SomeBool e ∧ w' = w := by
  unfold maxLen at *
  by_cases g1 : 1048576 < n
  · go_enter Try.func19, Try.ntmps19
    go_wp2
    go_ret
    exact ⟨⟨_, rfl⟩, rfl⟩
  · go_enter Try.func19, Try.ntmps19
    go_wp2
    go_ret
    exact ⟨⟨_, rfl⟩, rfl⟩

set_option maxHeartbeats 800000 in
theorem zzBytesTrip_any (a b : Int) (a1 a2 a3 : Option Addr) (n1 n2 n3 c1 c2 c3 : Nat) (w : World) (h1 : n1 ≤ maxLen) (h2 : n2 ≤ maxLen) (h3 : n3 ≤ maxLen) :
    Calls Try.prog 17 #[.int .u32 a, .int .u32 b, .slice a1 n1 c1, .slice a2 n2 c2, .slice a3 n3 c3] w fun e w' => SomeBool e ∧ w' = w := by
  unfold maxLen at *
  by_cases g1 : 1048576 < n1
  · go_enter Try.func17, Try.ntmps17
    go_wp2
    go_ret
    exact ⟨⟨_, rfl⟩, rfl⟩
  by_cases g2 : 1048576 < n2
  · go_enter Try.func17, Try.ntmps17
    go_wp2
    go_ret
    exact ⟨⟨_, rfl⟩, rfl⟩
  by_cases g3 : 1048576 < n1 + n2
  · go_enter Try.func17, Try.ntmps17
    go_wp2
    go_ret
    exact ⟨⟨_, rfl⟩, rfl⟩
  by_cases g4 : 1048576 < n3
  · go_enter Try.func17, Try.ntmps17
    go_wp2
    go_ret
    exact ⟨⟨_, rfl⟩, rfl⟩
  by_cases g5 : 1048576 < n1 + n2 + n3
  · go_enter Try.func17, Try.ntmps17
    go_wp2
    go_ret
    exact ⟨⟨_, rfl⟩, rfl⟩
  go_enter Try.func17, Try.ntmps17
  go_wp2
  go_ret
  exact ⟨⟨_, rfl⟩, rfl⟩
end Go.Proofs.Qxb6602245a

import Derived.Test.Qxb6602192aProg
import Derived.Test.Qxb6602192aKit
namespace Go.Proofs.Qxb6602192a
open Go.RowKit
theorem Try.info22 : (Try.prog.info? 22).map (fun i => (i.zero, i.size, i.bytes)) = some (some (.int .u64 0), 1, 8) := by kernel_rfl
theorem Try.info9 : (Try.prog.info? 9).map (fun i => (i.zero, i.size, i.bytes)) = some (some (.string ⟨#[]⟩), 1, 16) := by kernel_rfl

set_option maxHeartbeats 400000 in
theorem cloneU64_any (ao : Option Addr) (n cap : Nat) (zs : List Int) (w : World) (hn : zs.length = n) (hb : n ≤ 1048576) (hrow : Row w ao (zs.map (.int .u64))) (hnil : ao = none → n = 0) :
    Calls Try.prog 15 #[.slice ao n cap] w fun e w' => ∃ v, e = .returned v ∧ w'.ownsRow w.heap.size 22 1 v n (zs.map (.int .u64)) ∧ Below w.heap.size w w' := by
  obtain ⟨i0, hi, hz0, hz1, hz2⟩ := info_parts Try.info22
  have q27 : ∀ (w : World) (a : Option Addr) (n c n' c' : Nat), (binOp .eql 27 (.slice a n c) (.slice none n' c')).run Try.prog w = .ok (.bool a.isNone) w := fun w a n c n' c' => Lib.run_eql_slice_nil w _ _ a n c n' c' Try.underlying27
  cases ao with
  | none =>
    have := hnil rfl
    subst this
    have hz : zs = [] := List.eq_nil_of_length_eq_zero hn
    subst hz
    go_enter Try.func15, Try.ntmps15
    go_wp2
    go_ret
    exact ⟨_, rfl, World.ownsRow_nil _ _ _ _, Below.refl _ _⟩
  | some a =>
    go_enter Try.func15, Try.ntmps15
    go_wp2_with (at_make; refine wpList_make_full _ rfl _ _ 27 rfl w.heap.size 22 i0 (.int .u64 0) 1 Try.underlying27 hi hz0 hz1 _ _ _ _ n rfl rfl rfl rfl ?b2 ?b3 (Nat.le_refl _) ?_)
    case b2 => rw [hz2]; omega
    case b3 => unfold maxLen; omega
    intro w0 hown0 hgrow0
    go_wp2
    go_loopw [4] (fun i wr => ∃ (k : Nat) (xs : List Value), k ≤ n ∧ i = .int .i64 k ∧ xs.take k = (zs.map (Value.int .u64)).take k ∧ wr.ownsRow w.heap.size 22 1 (.slice (some ⟨w.heap.size, 0, none⟩) n n) n xs ∧ Below w.heap.size w wr ∧ w.heap.size < wr.heap.size)
      (fun i _ => n - (intOf i).toNat)
    case atStart => exact ⟨0, _, Nat.zero_le _, rfl, by simp, hown0, (Below.refl _ _).grown hgrow0 (Nat.le_refl _) (fun k h => by cases h), (hown0.lt _ rfl).2⟩
    case round =>
      obtain ⟨k, xs, hk, rfl, htk, hown, hnx, hsz⟩ := hrel
      by_cases hlt : k < n
      · obtain ⟨b, off, ea, hbl, hc⟩ := hrow.split (by simp; omega)
        cases ea
        have hck := (hnx.cell (p := ⟨b, off + k, none⟩) hbl).trans (hc k (by simp; omega))
        have hcz : ∃ z, wr.cell? ⟨b, off + k, none⟩ = some (.int .u64 z) ∧ (zs.map (Value.int .u64))[k]? = some (.int .u64 z) := ⟨zs[k], by rw [hck]; simp, by simp⟩
        obtain ⟨z, hcz, hzk⟩ := hcz
        have hxl : xs.length = n := by have := hown.1; omega
        have hcx := hown.cellAt k (by omega)
        rw [List.getElem?_eq_getElem (by omega)] at hcx
        have hfz := hown.frozenAt k
        have HS := hown.stored k (.int .u64 z)
        have HT : Hid ((xs.set k (.int .u64 z)).take (k + 1) = (zs.map (Value.int .u64)).take (k + 1)) := take_set_snoc htk (by omega) hzk
        clear hown htk hzk hck hc
        go_wp2
        go_roundw
        case rel => exact ⟨k + 1, _, by omega, by go_num, HT, HS.1, hnx.setCell (Nat.le_refl _) _, by simpa using hsz⟩
        case measure => simp [intOf]; omega
      · have : k = n := by omega
        subst this
        have hxs : xs = zs.map (Value.int .u64) := by
          have h1 := hown.1
          rw [List.take_of_length_le (by omega), List.take_of_length_le (by simp; omega)] at htk
          exact htk
        subst hxs
        go_wp2
        go_ret
        exact ⟨_, rfl, hown, hnx⟩

set_option maxHeartbeats 400000 in
theorem cloneStr_any (ao : Option Addr) (n cap : Nat) (zs : List ByteArray) (w : World) (hn : zs.length = n) (hb : n ≤ 1048576) (hrow : Row w ao (zs.map (.string))) (hnil : ao = none → n = 0) :
    Calls Try.prog 16 #[.slice ao n cap] w fun e w' => ∃ v, e = .returned v ∧ w'.ownsRow w.heap.size 9 1 v n (zs.map (.string)) ∧ Below w.heap.size w w' := by
  obtain ⟨i0, hi, hz0, hz1, hz2⟩ := info_parts Try.info9
  have q28 : ∀ (w : World) (a : Option Addr) (n c n' c' : Nat), (binOp .eql 28 (.slice a n c) (.slice none n' c')).run Try.prog w = .ok (.bool a.isNone) w := fun w a n c n' c' => Lib.run_eql_slice_nil w _ _ a n c n' c' Try.underlying28
  cases ao with
  | none =>
    have := hnil rfl
    subst this
    have hz : zs = [] := List.eq_nil_of_length_eq_zero hn
    subst hz
    go_enter Try.func16, Try.ntmps16
    go_wp2
    go_ret
    exact ⟨_, rfl, World.ownsRow_nil _ _ _ _, Below.refl _ _⟩
  | some a =>
    go_enter Try.func16, Try.ntmps16
    go_wp2_with (at_make; refine wpList_make_full _ rfl _ _ 28 rfl w.heap.size 9 i0 (.string ⟨#[]⟩) 1 Try.underlying28 hi hz0 hz1 _ _ _ _ n rfl rfl rfl rfl ?b2 ?b3 (Nat.le_refl _) ?_)
    case b2 => rw [hz2]; omega
    case b3 => unfold maxLen; omega
    intro w0 hown0 hgrow0
    go_wp2
    go_loopw [4] (fun i wr => ∃ (k : Nat) (xs : List Value), k ≤ n ∧ i = .int .i64 k ∧ xs.take k = (zs.map (Value.string)).take k ∧ wr.ownsRow w.heap.size 9 1 (.slice (some ⟨w.heap.size, 0, none⟩) n n) n xs ∧ Below w.heap.size w wr ∧ w.heap.size < wr.heap.size)
      (fun i _ => n - (intOf i).toNat)
    case atStart => exact ⟨0, _, Nat.zero_le _, rfl, by simp, hown0, (Below.refl _ _).grown hgrow0 (Nat.le_refl _) (fun k h => by cases h), (hown0.lt _ rfl).2⟩
    case round =>
      obtain ⟨k, xs, hk, rfl, htk, hown, hnx, hsz⟩ := hrel
      by_cases hlt : k < n
      · obtain ⟨b, off, ea, hbl, hc⟩ := hrow.split (by simp; omega)
        cases ea
        have hck := (hnx.cell (p := ⟨b, off + k, none⟩) hbl).trans (hc k (by simp; omega))
        have hcz : ∃ z, wr.cell? ⟨b, off + k, none⟩ = some (.string z) ∧ (zs.map (Value.string))[k]? = some (.string z) := ⟨zs[k], by rw [hck]; simp, by simp⟩
        obtain ⟨z, hcz, hzk⟩ := hcz
        have hxl : xs.length = n := by have := hown.1; omega
        have hcx := hown.cellAt k (by omega)
        rw [List.getElem?_eq_getElem (by omega)] at hcx
        have hfz := hown.frozenAt k
        have HS := hown.stored k (.string z)
        have HT : Hid ((xs.set k (.string z)).take (k + 1) = (zs.map (Value.string)).take (k + 1)) := take_set_snoc htk (by omega) hzk
        clear hown htk hzk hck hc
        go_wp2
        go_roundw
        case rel => exact ⟨k + 1, _, by omega, by go_num, HT, HS.1, hnx.setCell (Nat.le_refl _) _, by simpa using hsz⟩
        case measure => simp [intOf]; omega
      · have : k = n := by omega
        subst this
        have hxs : xs = zs.map (Value.string) := by
          have h1 := hown.1
          rw [List.take_of_length_le (by omega), List.take_of_length_le (by simp; omega)] at htk
          exact htk
        subst hxs
        go_wp2
        go_ret
        exact ⟨_, rfl, hown, hnx⟩
end Go.Proofs.Qxb6602192a

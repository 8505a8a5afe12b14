import Derived.Test.Qxb6602199aDoorAppends
import Derived.Test.Qxb6602199aDoorSmall
import Derived.ArgAppend
namespace Go.Proofs.Qxb6602199aDoor
open Go.RowKit

/-- A nil slice is empty. -/
def NilOk (r : Option Addr) (n : Nat) : Prop := r = none → n = 0
def SomeBool (e : Ending) : Prop := ∃ b : Bool, e = .returned (.bool b)

set_option maxHeartbeats 400000 in
theorem zzBytesInt_any (ao : Option Addr) (n cap : Nat) (i : Int) (w : World) (hm : n ≤ maxLen) :
    Calls Tryd.prog 12 #[.slice ao n cap, .int .i64 i] w fun e w' => SomeBool e ∧ w' = w := by
  unfold maxLen at *
  by_cases g1 : 1048576 < n
  · go_enter Tryd.func12, Tryd.ntmps12
    go_wp2
    go_ret
    exact ⟨⟨_, rfl⟩, rfl⟩
  · go_enter Tryd.func12, Tryd.ntmps12
    go_wp2
    go_ret
    exact ⟨⟨_, rfl⟩, rfl⟩

set_option maxHeartbeats 400000 in
theorem zzBytesStr_any (ao : Option Addr) (n cap : Nat) (s : ByteArray) (w : World) (hm : n ≤ maxLen) (hs : s.size ≤ maxLen) :
    Calls Tryd.prog 7 #[.slice ao n cap, .string s] w fun e w' => SomeBool e ∧ w' = w := by
  unfold maxLen at *
  by_cases g1 : 1048576 < n
  · go_enter Tryd.func7, Tryd.ntmps7
    go_wp2
    go_ret
    exact ⟨⟨_, rfl⟩, rfl⟩
  by_cases g2 : 1048576 < s.size
  · go_enter Tryd.func7, Tryd.ntmps7
    go_wp2
    go_ret
    exact ⟨⟨_, rfl⟩, rfl⟩
  by_cases g3 : 1048576 < n + s.size
  · go_enter Tryd.func7, Tryd.ntmps7
    go_wp2
    go_ret
    exact ⟨⟨_, rfl⟩, rfl⟩
  go_enter Tryd.func7, Tryd.ntmps7
  go_wp2
  go_ret
  exact ⟨⟨_, rfl⟩, rfl⟩

set_option maxHeartbeats 400000 in
/-- cloneBytes: a fresh copy with no spare room; nil stays nil. -/
theorem cloneBytes_any (ao : Option Addr) (n cap : Nat) (l : List UInt8) (w : World) (hn : l.length = n) (hb : n ≤ 1048576) (hrow : Row w ao (Lib.byteCells l)) (hnil : ao = none → n = 0 ∧ cap = 0) :
    Calls Tryd.prog 8 #[.slice ao n cap] w fun e w' => ∃ r, e = .returned (.slice r n n) ∧ NilOk r n ∧ Row w' r (Lib.byteCells l) ∧ Below w.heap.size w w' := by
  obtain ⟨i0, hi, hz0, hz1, hz2⟩ := info_parts Tryd.info5
  have q22 : ∀ (w : World) (a : Option Addr) (n c n' c' : Nat), (binOp .eql 22 (.slice a n c) (.slice none n' c')).run Tryd.prog w = .ok (.bool a.isNone) w := fun w a n c n' c' => Lib.run_eql_slice_nil w _ _ a n c n' c' Tryd.underlying22
  cases ao with
  | none =>
    obtain ⟨h1, h2⟩ := hnil rfl
    subst h1 h2
    have hz : l = [] := List.eq_nil_of_length_eq_zero hn
    subst hz
    go_enter Tryd.func8, Tryd.ntmps8
    go_wp2
    go_ret
    exact ⟨_, rfl, fun _ => rfl, Row.nil _ _, Below.refl _ _⟩
  | some a =>
    go_enter Tryd.func8, Tryd.ntmps8
    go_wp2_with (at_make; refine wpList_make_full _ rfl _ _ 22 rfl w.heap.size 5 i0 (.int .u8 0) 1 Tryd.underlying22 hi hz0 hz1 _ _ _ _ n rfl rfl rfl rfl ?b2 ?b3 (Nat.le_refl _) ?_)
    case b2 => rw [hz2]; omega
    case b3 => unfold maxLen; omega
    intro w0 hown0 hgrow0
    go_wp2
    go_loopw [4] (fun i wr => ∃ (k : Nat) (xs : List Value), k ≤ n ∧ i = .int .i64 k ∧ xs.take k = (Lib.byteCells l).take k ∧ wr.ownsRow w.heap.size 5 1 (.slice (some ⟨w.heap.size, 0, none⟩) n n) n xs ∧ Below w.heap.size w wr ∧ w.heap.size < wr.heap.size)
      (fun i _ => n - (intOf i).toNat)
    case atStart => exact ⟨0, _, Nat.zero_le _, rfl, by simp, hown0, (Below.refl _ _).grown hgrow0 (Nat.le_refl _) (fun k h => by cases h), (hown0.lt _ rfl).2⟩
    case round =>
      obtain ⟨k, xs, hk, rfl, htk, hown, hnx, hsz⟩ := hrel
      by_cases hlt : k < n
      · obtain ⟨b, off, ea⟩ := hrow.shape (by omega)
        cases ea
        obtain ⟨c, hc⟩ : ∃ c, l[k]? = some c := ⟨l[k], List.getElem?_eq_getElem _⟩
        have hck := (hrow.below hnx (Nat.le_refl _)).byte hc
        have hzk : (Lib.byteCells l)[k]? = some (.int .u8 c.toNat) := by rw [bc_get, hc]; rfl
        have hxl : xs.length = n := by have := hown.1; omega
        have hcx := hown.cellAt k (by omega)
        rw [List.getElem?_eq_getElem (by omega)] at hcx
        have hfz := hown.frozenAt k
        have HS := hown.stored k (.int .u8 c.toNat)
        have HT : Hid ((xs.set k (.int .u8 c.toNat)).take (k + 1) = (Lib.byteCells l).take (k + 1)) := take_set_snoc htk (by omega) hzk
        clear hown htk hzk hc
        go_wp2
        go_roundw
        case rel => exact ⟨k + 1, _, by omega, by go_num, HT, HS.1, hnx.setCell (Nat.le_refl _) _, by simpa using hsz⟩
        case measure => simp [intOf]; omega
      · have : k = n := by omega
        subst this
        have hxs : xs = Lib.byteCells l := by
          have h1 := hown.1
          rw [List.take_of_length_le (by omega), List.take_of_length_le (by rw [bc_len]; omega)] at htk
          exact htk
        subst hxs
        obtain ⟨r, c, er, R, hrn⟩ := Row.of_owns hown
        cases er
        go_wp2
        go_ret
        exact ⟨_, rfl, hrn, R, hnx⟩

theorem row_add {w : World} {ao : Option Addr} {xs : List Value} (h : Row w ao xs) : ∀ b, ao = some b → ∀ j u, xs[j]? = some u → w.cell? (b.add j) = some u := by
  intro b hb j u hj
  obtain ⟨b', off, e, hc⟩ := h j u hj
  rw [hb] at e
  cases e
  rw [Go.WideShapes.add_plain]
  exact hc

set_option maxHeartbeats 800000 in
/-- appendInt onto a slice without spare room: nothing that was there is written. -/
theorem appendInt_full (n : Nat) (i : Int) (h0 : -9223372036854775808 ≤ i) (h1 : i ≤ 9223372036854775807) (r : Option Addr) (l : List UInt8) (w : World) (hl : l.length = n) (hrow : Row w r (Lib.byteCells l)) (hnil : NilOk r n) (hlim : n ≤ 2000000) (htab : Tab w.heap.size w) :
    Calls Tryd.prog 16 #[.slice r n n, .int .i64 i] w fun e w' => ∃ v', e = .returned v' ∧ w'.ownsRow w.heap.size 5 1 v' (l ++ intText i).length (Lib.byteCells (l ++ intText i)) ∧ Below w.heap.size w w' := by
  obtain ⟨i0, hi, hz0, hz1, hz2⟩ := info_parts Tryd.info5
  have li := Lib.itoa_length_le i h0 h1
  have hr' := row_add (hrow.below ((Below.refl w.heap.size w).alloc (Nat.le_refl _) (.cells #[.int .u8 105] 5)) (Nat.le_refl _))
  go_enter Tryd.func16, Tryd.ntmps16
  go_wp2_with (at_builtin; refine wpList_append_grows _ rfl _ _ 22 rfl 5 i0 (.int .u8 0) 1 1 Tryd.underlying22 hi hz0 hz1 hz2 rfl (by decide) r n n (Lib.byteCells l) rfl (fun h => ⟨hnil h, hnil h⟩) (by rw [bc_len]; omega) hr' ⟨w.heap.size, 0, none⟩ 1 1 [Value.int .u8 105] rfl rfl (cell_one_new _ _ _) (by intro u' hu'; simp at hu'; subst hu'; rfl) (by omega) (by unfold maxLen; omega) (by omega) ?_)
  intro v1 w1 hown1 hgrow1
  have hb1 : Below w.heap.size w w1 := ((Below.refl _ w).alloc (Nat.le_refl _) _).grown hgrow1 (by simp) (fun k hk => by cases hk)
  have hs1 := hb1.size
  have hown1' : w1.ownsRow w.heap.size 5 1 v1 (n + 1) (Lib.byteCells l ++ [Value.int .u8 105]) := by
    obtain ⟨a1, a2⟩ := hown1
    refine ⟨a1, ?_⟩
    rcases a2 with h | ⟨g, cap, cur, e, hb, r⟩
    · exact .inl h
    · exact .inr ⟨g, cap, cur, e, by omega, r⟩
  clear hown1
  go_wp2_with fail
  refine (Any.strconv_AppendInt_10 Tryd.laysM176 w.heap.size (n + 1) i h0 h1 v1 _ w1 hown1' (by omega) (by omega) (htab.on hb1)).mono ?_
  rintro e w2 ⟨v2, rfl, hown2, hb2, -⟩
  have hs2 := hb2.size
  go_wp2_with (at_builtin; refine wpList_append_own _ rfl _ _ 22 rfl w.heap.size 5 i0 (.int .u8 0) 1 1 Tryd.underlying22 hi hz0 hz1 hz2 rfl (by decide) _ _ _ rfl (hown2.alloc _) ⟨w2.heap.size, 0, none⟩ 1 1 [Value.int .u8 101] rfl rfl (cell_one_new _ _ _) (by intro u' hu'; simp at hu'; subst hu'; rfl) (by unfold maxLen; omega) (by omega) (by simp; omega) ?_)
  intro v3 w3 hown3 hgrow3 _
  have hb3 : Below w.heap.size w2 w3 := ((Below.refl _ w2).alloc (by omega) _).grown hgrow3 (by simp; omega) (fun k hk => (hown2.lt k hk).1)
  have hown4 : w3.ownsRow w.heap.size 5 1 v3 (l ++ intText i).length (Lib.byteCells (l ++ intText i)) := by
    have eL : Lib.byteCells (l ++ intText i) = Lib.byteCells l ++ [Value.int .u8 105] ++ Lib.byteCells (Lib.itoa i) ++ [Value.int .u8 101] := by simp [Lib.byteCells, intText]
    have eN : (l ++ intText i).length = n + 1 + (Lib.itoa i).length + 1 := by simp [intText, hl]; omega
    rw [eL, eN]
    simpa using hown3
  have hbb := (hb1.trans hb2).trans hb3
  clear hown1' hown2 hown3 hgrow1 hgrow3
  go_wp2
  go_ret
  exact ⟨_, rfl, hown4, hbb⟩

set_option maxHeartbeats 800000 in
theorem zzAppendInt_full (n : Nat) (i : Int) (h0 : -9223372036854775808 ≤ i) (h1 : i ≤ 9223372036854775807) (r : Option Addr) (l : List UInt8) (w : World) (hl : l.length = n) (hrow : Row w r (Lib.byteCells l)) (hnil : NilOk r n) (hlim : n ≤ 2000000) (htab : Tab w.heap.size w) :
    Calls Tryd.prog 13 #[.slice r n n, .int .i64 i] w fun e w' => ∃ v', e = .returned v' ∧ w'.ownsRow w.heap.size 5 1 v' (l ++ intText i).length (Lib.byteCells (l ++ intText i)) ∧ Below w.heap.size w w' := by
  have H : Hid (Calls Tryd.prog 16 #[.slice r n n, .int .i64 i] w fun e w' => ∃ v', e = .returned v' ∧ w'.ownsRow w.heap.size 5 1 v' (l ++ intText i).length (Lib.byteCells (l ++ intText i)) ∧ Below w.heap.size w w') := appendInt_full n i h0 h1 r l w hl hrow hnil hlim htab
  clear hrow htab
  go_enter Tryd.func13, Tryd.ntmps13
  go_wp2_with fail
  refine H.out.mono ?_
  rintro e w2 ⟨v2, rfl, hown2, hb2⟩
  go_wp2
  go_ret
  exact ⟨_, rfl, hown2, hb2⟩
end Go.Proofs.Qxb6602199aDoor

import Derived.Test.Qxb6602199aDoorFull
namespace Go.Proofs.Qxb6602199aDoor
open Go.RowKit

/-- What each of the four says: the numeral of u behind the row, in new memory. -/
def Ans (n u : Nat) (l : List UInt8) (w : World) (e : Ending) (w' : World) : Prop :=
  ∃ v', e = .returned v' ∧ w'.ownsRow w.heap.size 5 1 v' (n + (Lib.decDigits u).length) (Lib.byteCells l ++ Lib.byteCells (Lib.decDigits u)) ∧ Below w.heap.size w w'

theorem appendUint_full (n u : Nat) (hu6 : u ≤ 524288) (r : Option Addr) (l : List UInt8) (w : World) (hl : l.length = n) (hrow : Row w r (Lib.byteCells l)) (hnil : NilOk r n) (hlim : n ≤ 2000000) (htab : Tab w.heap.size w) :
    Calls Tryd.prog 19 #[.slice r n n, .int .u64 u, .int .i64 10] w (Ans n u l w) := by
  by_cases h : u < 100
  · exact appendUint_small n u h r l w hl hrow hnil hlim
  · exact appendUint_big n u (by omega) hu6 r l w hl hrow hnil hlim htab

set_option maxHeartbeats 800000 in
theorem appendInt18_full (n u : Nat) (hu6 : u ≤ 524288) (r : Option Addr) (l : List UInt8) (w : World) (hl : l.length = n) (hrow : Row w r (Lib.byteCells l)) (hnil : NilOk r n) (hlim : n ≤ 2000000) (htab : Tab w.heap.size w) :
    Calls Tryd.prog 18 #[.slice r n n, .int .i64 u, .int .i64 10] w (Ans n u l w) := by
  have H : Hid (Calls Tryd.prog 19 #[.slice r n n, .int .u64 u, .int .i64 10] w (Ans n u l w)) := appendUint_full n u hu6 r l w hl hrow hnil hlim htab
  clear hrow htab hl
  go_enter Tryd.func18, Tryd.ntmps18
  go_wp2_with fail
  refine H.out.mono ?_
  rintro e w2 ⟨v2, rfl, hown2, hb2⟩
  go_wp2
  go_ret
  exact ⟨_, rfl, hown2, hb2⟩

set_option maxHeartbeats 800000 in
theorem appendInt17_full (n u : Nat) (hu6 : u ≤ 524288) (r : Option Addr) (l : List UInt8) (w : World) (hl : l.length = n) (hrow : Row w r (Lib.byteCells l)) (hnil : NilOk r n) (hlim : n ≤ 2000000) (htab : Tab w.heap.size w) :
    Calls Tryd.prog 17 #[.slice r n n, .int .i64 u, .int .i64 10] w (Ans n u l w) := by
  have H : Hid (Calls Tryd.prog 18 #[.slice r n n, .int .i64 u, .int .i64 10] w (Ans n u l w)) := appendInt18_full n u hu6 r l w hl hrow hnil hlim htab
  clear hrow htab hl
  go_enter Tryd.func17, Tryd.ntmps17
  go_wp2_with fail
  refine H.out.mono ?_
  rintro e w2 ⟨v2, rfl, hown2, hb2⟩
  go_wp2
  go_ret
  exact ⟨_, rfl, hown2, hb2⟩

def strTxt (s : ByteArray) : List UInt8 := Lib.decDigits s.size ++ 58 :: s.data.toList

set_option maxHeartbeats 800000 in
theorem appendString_full (n : Nat) (s : ByteArray) (hs : s.size ≤ 524288) (r : Option Addr) (l : List UInt8) (w : World) (hl : l.length = n) (hrow : Row w r (Lib.byteCells l)) (hnil : NilOk r n) (hlim : n ≤ 2000000) (htab : Tab w.heap.size w) :
    Calls Tryd.prog 15 #[.slice r n n, .string s] w fun e w' => ∃ v', e = .returned v' ∧ w'.ownsRow w.heap.size 5 1 v' (l ++ strTxt s).length (Lib.byteCells (l ++ strTxt s)) ∧ Below w.heap.size w w' := by
  obtain ⟨i0, hi, hz0, hz1, hz2⟩ := info_parts Tryd.info5
  have li := dec_len6 s.size hs
  have H : Hid (Calls Tryd.prog 17 #[.slice r n n, .int .i64 s.size, .int .i64 10] w (Ans n s.size l w)) := appendInt17_full n s.size hs r l w hl hrow hnil hlim htab
  have HL : Hid (l.length = n) := hl
  clear hrow htab hl
  go_enter Tryd.func15, Tryd.ntmps15
  go_wp2_with fail
  refine H.out.mono ?_
  rintro e w1 ⟨v1, rfl, hown1, hb1⟩
  have hs1 := hb1.size
  go_wp2_with (first
    | (at_builtin; refine wpList_append_own _ rfl (.tmp 9) (.tmp 10) 22 rfl w.heap.size 5 i0 (.int .u8 0) 1 1 Tryd.underlying22 hi hz0 hz1 hz2 rfl (by decide) _ _ _ rfl (hown1.alloc _) ⟨w1.heap.size, 0, none⟩ 1 1 [Value.int .u8 58] rfl rfl (cell_one_new _ _ _) (by intro u' hu'; simp at hu'; subst hu'; rfl) (by unfold maxLen; omega) (by omega) (by simp; omega) ?_; intro v2 w2 hown2 hgrow2 _; have hs2 := hgrow2.size; simp at hs2)
    | (at_builtin; refine Lib.wpList_append_own_string _ rfl (.tmp 12) (.tmp 13) 22 9 rfl w.heap.size 5 i0 Tryd.underlying22 Tryd.underlying9 hi hz0 hz1 hz2 _ _ _ rfl hown2 s rfl (by unfold maxLen; omega) (by omega) (by omega) ?_; intro v3 w3 hown3 hgrow3 _))
  have hb2 : Below w.heap.size w1 w2 := ((Below.refl _ w1).alloc (by omega) _).grown hgrow2 (by simp; omega) (fun k hk => (hown1.lt k hk).1)
  have hb3 : Below w.heap.size w2 w3 := (Below.refl _ w2).grown hgrow3 (by omega) (fun k hk => (hown2.lt k hk).1)
  have hown4 : w3.ownsRow w.heap.size 5 1 v3 (l ++ strTxt s).length (Lib.byteCells (l ++ strTxt s)) := by
    have eL : Lib.byteCells (l ++ strTxt s) = Lib.byteCells l ++ Lib.byteCells (Lib.decDigits s.size) ++ [Value.int .u8 58] ++ Lib.strCells s := by simp [Lib.byteCells, strTxt, Lib.strCells]
    have eN : (l ++ strTxt s).length = n + (Lib.decDigits s.size).length + 1 + s.size := by
      have : s.data.toList.length = s.size := by simp
      simp only [strTxt, List.length_append, List.length_cons, this, HL.out]
      omega
    rw [eL, eN]
    simpa using hown3
  have hbb := (hb1.trans hb2).trans hb3
  clear hown1 hown2 hown3 hgrow2 hgrow3
  go_ret
  exact ⟨_, rfl, hown4, hbb⟩

set_option maxHeartbeats 800000 in
theorem zzAppendString_full (n : Nat) (s : ByteArray) (hs : s.size ≤ 524288) (r : Option Addr) (l : List UInt8) (w : World) (hl : l.length = n) (hrow : Row w r (Lib.byteCells l)) (hnil : NilOk r n) (hlim : n ≤ 2000000) (htab : Tab w.heap.size w) :
    Calls Tryd.prog 9 #[.slice r n n, .string s] w fun e w' => ∃ v', e = .returned v' ∧ w'.ownsRow w.heap.size 5 1 v' (l ++ strTxt s).length (Lib.byteCells (l ++ strTxt s)) ∧ Below w.heap.size w w' := by
  have H : Hid (Calls Tryd.prog 15 #[.slice r n n, .string s] w fun e w' => ∃ v', e = .returned v' ∧ w'.ownsRow w.heap.size 5 1 v' (l ++ strTxt s).length (Lib.byteCells (l ++ strTxt s)) ∧ Below w.heap.size w w') := appendString_full n s hs r l w hl hrow hnil hlim htab
  clear hrow htab hl
  go_enter Tryd.func9, Tryd.ntmps9
  go_wp2_with fail
  refine H.out.mono ?_
  rintro e w2 ⟨v2, rfl, hown2, hb2⟩
  go_wp2
  go_ret
  exact ⟨_, rfl, hown2, hb2⟩
end Go.Proofs.Qxb6602199aDoor

import Derived.Test.Qxb6602199aDoorProg
import Derived.Test.Qxb6602199aDoorKit
import Derived.Test.Qxb6602199aDoorShelf
import Derived.Test.Qxb6602199aDoorRows
import Derived.Test.Qxb6602199aDoorDec
import Derived.Lib.AppendIntMem
import Derived.Lib.ItoaLen
import Derived.Lib.AppendStr
import Derived.Lib.Hide
import Derived.Maps.AppendAt
namespace Go.Proofs.Qxb6602199aDoor
open Go.RowKit
theorem Tryd.info5 : (Tryd.prog.info? 5).map (fun i => (i.zero, i.size, i.bytes)) = some (some (.int .u8 0), 1, 1) := by kernel_rfl

/-- The name of the library's table of powers of ten, as the row lists it. -/
def tabName : String := Rows.fnAppendIntOrderRow.named.headD ""
/-- The table reads as its initialiser lays it, whatever is done from block B on. -/
def Tab (B : Nat) (w : World) : Prop := Lib.TabBelow Tryd.prog B w tabName .u64 Lib.pow10Tab
theorem Tab.on {B : Nat} {w w1 : World} (h : Tab B w) (hb : Below B w w1) : Tab B w1 := Lib.TabBelow.on h hb
theorem Tab.anew {B : Nat} {w : World} (h : Tab B w) : Tab w.heap.size w := Lib.tabBelow_of_tabIs (Lib.TabBelow.here h)

/-- appendInt: 'i', the numeral, 'e', behind what was there. -/
def intText (i : Int) : List UInt8 := 105 :: (Lib.itoa i ++ [101])

set_option maxHeartbeats 800000 in
theorem appendInt_any (B n : Nat) (i : Int) (h0 : -9223372036854775808 ≤ i) (h1 : i ≤ 9223372036854775807) (sv : Value) (l : List UInt8) (w : World) (hown : w.ownsRow B 5 1 sv n (Lib.byteCells l)) (hBw : B ≤ w.heap.size) (hlim : n ≤ 2000000) (htab : Tab B w) :
    Calls Tryd.prog 16 #[sv, .int .i64 i] w fun e w' => ∃ v', e = .returned v' ∧ w'.ownsRow B 5 1 v' (l ++ intText i).length (Lib.byteCells (l ++ intText i)) ∧ Below B w w' := by
  obtain ⟨i0, hi, hz0, hz1, hz2⟩ := info_parts Tryd.info5
  have li := Lib.itoa_length_le i h0 h1
  go_enter Tryd.func16, Tryd.ntmps16
  go_wp2_with (at_builtin; refine wpList_append_own _ rfl _ _ 22 rfl B 5 i0 (.int .u8 0) 1 1 Tryd.underlying22 hi hz0 hz1 hz2 rfl (by decide) _ _ _ rfl (hown.alloc _) ⟨w.heap.size, 0, none⟩ 1 1 [Value.int .u8 105] rfl rfl (cell_one_new _ _ _) (by intro u' hu'; simp at hu'; subst hu'; rfl) (by unfold maxLen; omega) (by omega) (by simp; omega) ?_)
  intro v1 w1 hown1 hgrow1 _
  have hb1 : Below B w w1 := ((Below.refl B w).alloc hBw _).grown hgrow1 (by simp; omega) (fun k hk => (hown.lt k hk).1)
  have hs1 := hb1.size
  go_wp2_with fail
  refine (Any.strconv_AppendInt_10 Tryd.laysM176 B (n + 1) i h0 h1 v1 _ w1 hown1 (by omega) (by omega) (htab.on hb1)).mono ?_
  rintro e w2 ⟨v2, rfl, hown2, hb2, -⟩
  have hs2 := hb2.size
  go_wp2_with (at_builtin; refine wpList_append_own _ rfl _ _ 22 rfl B 5 i0 (.int .u8 0) 1 1 Tryd.underlying22 hi hz0 hz1 hz2 rfl (by decide) _ _ _ rfl (hown2.alloc _) ⟨w2.heap.size, 0, none⟩ 1 1 [Value.int .u8 101] rfl rfl (cell_one_new _ _ _) (by intro u' hu'; simp at hu'; subst hu'; rfl) (by unfold maxLen; omega) (by omega) (by simp; omega) ?_)
  intro v3 w3 hown3 hgrow3 _
  have hb3 : Below B w2 w3 := ((Below.refl B w2).alloc (by omega) _).grown hgrow3 (by simp; omega) (fun k hk => (hown2.lt k hk).1)
  have hln : n = l.length := by have := hown.1; simp [Lib.byteCells] at this; omega
  have eL : Lib.byteCells l ++ Value.int .u8 105 :: (Lib.byteCells (Lib.itoa i) ++ [Value.int .u8 101]) = Lib.byteCells (l ++ intText i) := by simp [Lib.byteCells, intText]
  have eN : n + 1 + (Lib.itoa i).length + 1 = (l ++ intText i).length := by simp [intText, hln]; omega
  rw [eL, eN] at hown3
  have hbb := (hb1.trans hb2).trans hb3
  clear hln eL eN hown hown1 hown2 hgrow1 hgrow3
  go_wp2
  go_ret
  exact ⟨_, rfl, hown3, hbb⟩

set_option maxHeartbeats 800000 in
theorem zzAppendInt_any (B n : Nat) (i : Int) (h0 : -9223372036854775808 ≤ i) (h1 : i ≤ 9223372036854775807) (sv : Value) (l : List UInt8) (w : World) (hown : w.ownsRow B 5 1 sv n (Lib.byteCells l)) (hBw : B ≤ w.heap.size) (hlim : n ≤ 2000000) (htab : Tab B w) :
    Calls Tryd.prog 13 #[sv, .int .i64 i] w fun e w' => ∃ v', e = .returned v' ∧ w'.ownsRow B 5 1 v' (l ++ intText i).length (Lib.byteCells (l ++ intText i)) ∧ Below B w w' := by
  have H : Hid (Calls Tryd.prog 16 #[sv, .int .i64 i] w fun e w' => ∃ v', e = .returned v' ∧ w'.ownsRow B 5 1 v' (l ++ intText i).length (Lib.byteCells (l ++ intText i)) ∧ Below B w w') := appendInt_any B n i h0 h1 sv l w hown hBw hlim htab
  clear hown htab
  go_enter Tryd.func13, Tryd.ntmps13
  go_wp2_with fail
  refine H.out.mono ?_
  rintro e w2 ⟨v2, rfl, hown2, hb2⟩
  go_wp2
  go_ret
  exact ⟨_, rfl, hown2, hb2⟩

/-- appendString: the length's numeral, ':', the string, behind what was there. -/
def strText (s : ByteArray) : List UInt8 := Lib.itoa s.size ++ 58 :: s.data.toList

set_option maxHeartbeats 800000 in
theorem appendString_any (B n : Nat) (s : ByteArray) (hs : s.size ≤ 1048576) (sv : Value) (l : List UInt8) (w : World) (hown : w.ownsRow B 5 1 sv n (Lib.byteCells l)) (hBw : B ≤ w.heap.size) (hlim : n ≤ 2000000) (htab : Tab B w) :
    Calls Tryd.prog 15 #[sv, .string s] w fun e w' => ∃ v', e = .returned v' ∧ w'.ownsRow B 5 1 v' (l ++ strText s).length (Lib.byteCells (l ++ strText s)) ∧ Below B w w' := by
  obtain ⟨i0, hi, hz0, hz1, hz2⟩ := info_parts Tryd.info5
  have li := Lib.itoa_length_le s.size (by omega) (by omega)
  go_enter Tryd.func15, Tryd.ntmps15
  go_wp2_with fail
  refine (Any.strconv_AppendInt_10 Tryd.laysM176 B n s.size (by omega) (by omega) sv _ w hown (by omega) (by omega) htab).mono ?_
  rintro e w1 ⟨v1, rfl, hown1, hb1, -⟩
  have hs1 := hb1.size
  go_wp2_with (first
    | (at_builtin; refine wpList_append_own _ rfl (.tmp 9) (.tmp 10) 22 rfl B 5 i0 (.int .u8 0) 1 1 Tryd.underlying22 hi hz0 hz1 hz2 rfl (by decide) _ _ _ rfl (hown1.alloc _) ⟨w1.heap.size, 0, none⟩ 1 1 [Value.int .u8 58] rfl rfl (cell_one_new _ _ _) (by intro u' hu'; simp at hu'; subst hu'; rfl) (by unfold maxLen; omega) (by omega) (by simp; omega) ?_; intro v2 w2 hown2 hgrow2 _; have hs2 := hgrow2.size; simp at hs2)
    | (at_builtin; refine Lib.wpList_append_own_string _ rfl (.tmp 12) (.tmp 13) 22 9 rfl B 5 i0 Tryd.underlying22 Tryd.underlying9 hi hz0 hz1 hz2 _ _ _ rfl hown2 s rfl (by unfold maxLen; omega) (by omega) (by omega) ?_; intro v3 w3 hown3 hgrow3 _))
  have hb2 : Below B w1 w2 := ((Below.refl B w1).alloc (by omega) _).grown hgrow2 (by simp; omega) (fun k hk => (hown1.lt k hk).1)
  have hb3 : Below B w2 w3 := (Below.refl B w2).grown hgrow3 (by omega) (fun k hk => (hown2.lt k hk).1)
  have hln : n = l.length := by have := hown.1; simp [Lib.byteCells] at this; omega
  have hown4 : w3.ownsRow B 5 1 v3 (l ++ strText s).length (Lib.byteCells (l ++ strText s)) := by
    have eL : Lib.byteCells (l ++ strText s) = Lib.byteCells l ++ Lib.byteCells (Lib.itoa s.size) ++ [Value.int .u8 58] ++ Lib.strCells s := by simp [Lib.byteCells, strText, Lib.strCells]
    have eN : (l ++ strText s).length = n + (Lib.itoa s.size).length + 1 + s.size := by
      have : s.data.toList.length = s.size := by simp
      simp only [strText, List.length_append, List.length_cons, this, hln]
      omega
    rw [eL, eN]
    simpa using hown3
  have hbb := (hb1.trans hb2).trans hb3
  clear hln hown hown1 hown2 hown3 hgrow2 hgrow3
  go_ret
  exact ⟨_, rfl, hown4, hbb⟩

set_option maxHeartbeats 800000 in
theorem zzAppendString_any (B n : Nat) (s : ByteArray) (hs : s.size ≤ 1048576) (sv : Value) (l : List UInt8) (w : World) (hown : w.ownsRow B 5 1 sv n (Lib.byteCells l)) (hBw : B ≤ w.heap.size) (hlim : n ≤ 2000000) (htab : Tab B w) :
    Calls Tryd.prog 9 #[sv, .string s] w fun e w' => ∃ v', e = .returned v' ∧ w'.ownsRow B 5 1 v' (l ++ strText s).length (Lib.byteCells (l ++ strText s)) ∧ Below B w w' := by
  have H : Hid (Calls Tryd.prog 15 #[sv, .string s] w fun e w' => ∃ v', e = .returned v' ∧ w'.ownsRow B 5 1 v' (l ++ strText s).length (Lib.byteCells (l ++ strText s)) ∧ Below B w w') := appendString_any B n s hs sv l w hown hBw hlim htab
  clear hown htab
  go_enter Tryd.func9, Tryd.ntmps9
  go_wp2_with fail
  refine H.out.mono ?_
  rintro e w2 ⟨v2, rfl, hown2, hb2⟩
  go_wp2
  go_ret
  exact ⟨_, rfl, hown2, hb2⟩
end Go.Proofs.Qxb6602199aDoor

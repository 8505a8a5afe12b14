/-
  append AND strconv.AppendInt ONTO A SLICE WITHOUT SPARE ROOM: a new array is made, and nothing that was there is written. (The shelf's contract says where the answer lies, not that the old row stands.)
-/
import Derived.Test.Qxb6602199aDoorClone
import Derived.Shelf.Strconv.AppendUint10
namespace Go.Proofs.Qxb6602199aDoor
open Go.RowKit
open Go.Sort (putRow cell?_putRow)

theorem run_append_full_string {P : Program} (w : World) (t u ty e : TypeId) (i : TypeInfo) (ht : P.underlying t = some (.slice e)) (hu : P.underlying u = some .string) (hi : P.info? e = some i) (hz : i.zero = some (.int .u8 0))
    (hsize : i.size = 1) (hby : i.bytes = 1) (r : Option Addr) (n : Nat) (xs : List Value) (hxl : xs.length = n) (hrow : Row w r xs) (hnil : NilOk r n) (s : ByteArray) (hs : 0 < s.size) (hbytes : n + s.size ≤ 140737488355328) :
    ∃ v' w', (Builtin.append_ #[t, u] ty #[.slice r n n, .string s]).run P w = .ok v' w' ∧ w'.ownsRow w.heap.size e 1 v' (n + s.size) (xs ++ Lib.strCells s) ∧ w.grownBy w' none := by
  have h63 : n + s.size ≤ maxLen := by unfold maxLen; omega
  have hlen : (xs ++ Lib.strCells s).length = (n + s.size) * 1 := by rw [List.length_append, hxl, Lib.strCells_length, Nat.mul_one]
  have grown : ∀ (old : Nat), old < n + s.size →
      (w.drew.alloc (.cells (xs.toArray ++ (Lib.strCells s).toArray ++ Builtin.zeroCells (Value.int .u8 0).cells (grownCap w (n + s.size) old e - (n + s.size))) e)).ownsRow w.heap.size e 1
        (.slice (some ⟨w.heap.size, 0, none⟩) (n + s.size) (grownCap w (n + s.size) old e)) (n + s.size) (xs ++ Lib.strCells s) ∧
      w.grownBy (w.drew.alloc (.cells (xs.toArray ++ (Lib.strCells s).toArray ++ Builtin.zeroCells (Value.int .u8 0).cells (grownCap w (n + s.size) old e - (n + s.size))) e)) none := by
    intro old ho
    have hge := grownCap_ge w (n + s.size) old e
    have hcm : grownCap w (n + s.size) old e ≤ maxLen := grownCap_le_maxLen w (n + s.size) old e h63
    refine ⟨⟨hlen, .inr ⟨w.heap.size, _, _, rfl, Nat.le_refl _, heap_alloc_new w.drew _, hge, hcm, ?_, ?_⟩⟩, ⟨rfl, rfl, rfl, by simp, fun k hk _ => heap_alloc_old w.drew _ hk⟩⟩
    · have hz1 : (Value.int IntKind.u8 0).cells.size = 1 := rfl
      simp only [Array.size_append, List.size_toArray, size_zeroCells, hz1, hxl, Lib.strCells_length]
      omega
    · simp only [Array.toList_append, List.append_assoc]
      rw [← List.append_assoc, ← hlen]
      exact List.take_left
  cases r with
  | none =>
    have := hnil rfl
    subst this
    have hx : xs = [] := List.eq_nil_of_length_eq_zero hxl
    subst hx
    have hr := run_append_nil_string (P := P) w t u ty e i (.int .u8 0) ht hu hi hz s (by omega) (by omega) (by rw [hby]; omega)
    have hgr := grown 0 (by omega)
    simp only [Nat.zero_add, List.nil_append, Array.empty_append] at hgr ⊢
    have e1 : (s.data.map fun b => Value.int .u8 b.toNat) = (Lib.strCells s).toArray := by
      apply Array.ext'
      simp [Lib.strCells]
    rw [e1] at hr
    exact ⟨_, _, hr, hgr.1, hgr.2⟩
  | some b =>
    have hr := Lib.run_append_grow_string (P := P) w t u ty e i (.int .u8 0) ht hu hi hz b n n xs (by rw [hsize]; omega) (row_add hrow b rfl) s (by omega) (by omega) (by rw [hby]; exact growslice_fits (by omega) (by omega))
    have hgr := grown n (by omega)
    exact ⟨_, _, hr, hgr.1, hgr.2⟩

theorem wpList_append_full_string {P : Program} (w : World) {ops : Array Oper} {rest : List Oper} {o : Oper} {a : Act} {Q : Exit → Act → World → Prop} (hgd : o.guard = none) (sl x : Operand) (t u : TypeId)
    (ho : o.op = .call { callee := .builtin .append, args := #[sl, x], argTypes := #[t, u] })
    (e : TypeId) (i : TypeInfo) (ht : P.underlying t = some (.slice e)) (hu : P.underlying u = some .string) (hi : P.info? e = some i) (hz : i.zero = some (.int .u8 0))
    (hsize : i.size = 1) (hby : i.bytes = 1) (r : Option Addr) (n : Nat) (xs : List Value) (hxl : xs.length = n) (hsv : a.eval sl = .slice r n n) (hrow : Row w r xs) (hnil : NilOk r n) (s : ByteArray) (hx : a.eval x = .string s)
    (hs : 0 < s.size) (hbytes : n + s.size ≤ 140737488355328)
    (h : ∀ v' w', w'.ownsRow w.heap.size e 1 v' (n + s.size) (xs ++ Lib.strCells s) → w.grownBy w' none → wpList P ops Q rest (a.put o.dst v') w') : wpList P ops Q (o :: rest) a w := by
  refine wpList_plain hgd fun K hK => ?_
  obtain ⟨v', w', hr, h2, h3⟩ := run_append_full_string (P := P) w t u o.type e i ht hu hi hz hsize hby r n xs hxl hrow hnil s hs hbytes
  unfold Oper.wp
  simp [execOp, ho, resolve, invoke, builtin, hsv, hx, hr, Result.andThen]
  exact hK _ _ (h v' w' h2 h3)

set_option maxHeartbeats 6400000 in
set_option maxRecDepth 100000 in
theorem appendUint_small (n u : Nat) (hu : u < 100) (r : Option Addr) (l : List UInt8) (w : World) (hl : l.length = n) (hrow : Row w r (Lib.byteCells l)) (hnil : NilOk r n) (hlim : n ≤ 2000000) :
    Calls Tryd.prog 19 #[.slice r n n, .int .u64 u, .int .i64 10] w fun e w' => ∃ v', e = .returned v' ∧ w'.ownsRow w.heap.size 5 1 v' (n + (Lib.decDigits u).length) (Lib.byteCells l ++ Lib.byteCells (Lib.decDigits u)) ∧ Below w.heap.size w w' := by
  obtain ⟨i0, hi, hz0, hz1, hz2⟩ := info_parts Tryd.info5
  have hlen := dec_len6 u (by omega)
  have hpos := dec_pos u
  have hsz : (⟨(Lib.decDigits u).toArray⟩ : ByteArray).size = (Lib.decDigits u).length := by simp [ByteArray.size]
  go_enter Tryd.func19, Tryd.ntmps19
  go_wp2_with (first
    | (go_at_call 20; refine (Any.internal_strconv_small { Tryd.laysM176 with } u hu _).mono ?_; rintro e wx ⟨rfl, hwx⟩; rw [hwx]; clear hwx wx)
    | (at_builtin; refine wpList_append_full_string _ rfl _ _ 22 9 rfl 5 i0 Tryd.underlying22 Tryd.underlying9 hi hz0 hz1 hz2 r n (Lib.byteCells l) (by rw [bc_len]; exact hl) rfl hrow hnil ⟨(Lib.decDigits u).toArray⟩ rfl (by rw [hsz]; exact hpos) (by rw [hsz]; omega) ?_; intro v' w1 hown' hgrow))
  have hb : Below w.heap.size w w1 := (Below.refl _ _).grown hgrow (Nat.le_refl _) (fun k hk => by cases hk)
  have hown2 : w1.ownsRow w.heap.size 5 1 v' (n + (Lib.decDigits u).length) (Lib.byteCells l ++ Lib.byteCells (Lib.decDigits u)) := by
    have e : Lib.strCells ⟨(Lib.decDigits u).toArray⟩ = Lib.byteCells (Lib.decDigits u) := by simp [Lib.strCells, Lib.byteCells]
    rw [hsz, e] at hown'
    exact hown'
  clear hown' hgrow
  go_ret
  exact ⟨_, rfl, hown2, hb⟩

set_option maxHeartbeats 12800000 in
set_option maxRecDepth 100000 in
theorem appendUint_big (n u : Nat) (hu : 100 ≤ u) (hu6 : u ≤ 524288) (r : Option Addr) (l : List UInt8) (w : World) (hl : l.length = n) (hrow : Row w r (Lib.byteCells l)) (hnil : NilOk r n) (hlim : n ≤ 2000000) (htab : Tab w.heap.size w) :
    Calls Tryd.prog 19 #[.slice r n n, .int .u64 u, .int .i64 10] w fun e w' => ∃ v', e = .returned v' ∧ w'.ownsRow w.heap.size 5 1 v' (n + (Lib.decDigits u).length) (Lib.byteCells l ++ Lib.byteCells (Lib.decDigits u)) ∧ Below w.heap.size w w' := by
  obtain ⟨i0, hi, hz0, hz1, hz2⟩ := info_parts Tryd.info5
  have hu1 : 1 ≤ u := by omega
  have hu64 : u < 18446744073709551616 := by omega
  have hnd6 : Lib.nDigits u ≤ 6 := by rw [← Lib.decDigits_length]; exact dec_len6 u hu6
  have hnd1 : 1 ≤ Lib.nDigits u := by rw [← Lib.decDigits_length]; exact dec_pos u
  have hal : Tryd.prog.arrayLen 35 = 24 := by simp [Program.arrayLen, Tryd.underlying35]
  have hsl : ∀ W, (Instr.sliceAt 35 (.pointer (some ⟨w.heap.size, 0, none⟩)) none (some (.int .i64 (Lib.nDigits u : Int))) none).run Tryd.prog W = .ok (.slice (some ⟨w.heap.size, 0, none⟩) (Lib.nDigits u) 24) W := fun W => by
    rw [run_sliceAt_array_h W 35 ⟨w.heap.size, 0, none⟩ (by simp [Program.arrayLen, Program.elem, Tryd.underlying35]) .i64 (Lib.nDigits u : Int) (by omega) (by rw [hal]; omega)]
    go_simp
  have hH0 := Lib.holds_zero0 w 35 (Lib.nDigits u) (by omega)
  have hfmt := Any.internal_strconv_formatBase10 { Tryd.laysM176 with } w.heap.size 0 24 u (Array.replicate (Lib.nDigits u) 0) (w.alloc (.cells Lib.zeros24 35)) hH0 (by rw [Array.size_replicate]; exact Lib.lt_pow_nDigits u) hu64 (by rw [Array.size_replicate]; omega)
  rw [Array.size_replicate] at hfmt
  have HH0 := Lib.hid hH0
  have HF := Lib.hid hfmt
  have htis : Lib.TabIs Tryd.prog w tabName .u64 Lib.pow10Tab := Lib.TabBelow.here htab
  have HT := Lib.hid htis
  have HR : Hid (Row w r (Lib.byteCells l)) := hrow
  have iu : (100 : Int) ≤ (u : Int) := by omega
  clear hH0 hal hfmt htis htab hrow
  go_enter Tryd.func19, Tryd.ntmps19
  go_wp2_with (first
    | (go_at_call 21; refine (Any.internal_strconv_numDigits { Tryd.laysM176 with } u hu1 hu64 _ (Lib.tabIs_alloc HT.out _)).mono ?_; rintro e w' ⟨rfl, rfl⟩)
    | fail)
  refine HF.out.mono ?_
  rintro e w' ⟨rfl, k, v', dk, rfl, hF⟩
  have hcells : ∀ j u', (Lib.byteCells (Lib.decDigits u))[j]? = some u' → ((putRow (fun (b : UInt8) => Value.int .u8 (b.toNat : Int)) (w.alloc (.cells Lib.zeros24 35)) w.heap.size 0 dk).drewN k).cell? ((⟨w.heap.size, 0, none⟩ : Addr).add j) = some u' := by
    intro j u' hj
    have hjl : j < (Lib.decDigits u).length := by
      have h5 := (List.getElem?_eq_some_iff.1 hj).1
      rwa [Lib.byteCells_length] at h5
    have e5 : (Lib.byteCells (Lib.decDigits u))[j]? = some (Value.int .u8 ((Lib.decDigits u)[j].toNat : Int)) := by simp [Lib.byteCells, hjl]
    rw [e5] at hj
    cases hj
    rw [Lib.row_is_numeral hF j hjl, Lib.add_plain, World.cell?_drewN]
    exact cell?_putRow (fun (b : UInt8) => Value.int .u8 (b.toNat : Int)) _ w.heap.size 0 _ dk HH0.out (by rw [hF.size, Array.size_replicate]) j (by rw [hF.size]; rw [Lib.decDigits_length] at hjl; exact hjl)
  obtain ⟨os, eo⟩ := Lib.fin_at w (.cells Lib.zeros24 35) dk k 0
  have hnx2 : Below w.heap.size w ((putRow (fun (b : UInt8) => Value.int .u8 (b.toNat : Int)) (w.alloc (.cells Lib.zeros24 35)) w.heap.size 0 dk).drewN k) := by rw [eo]; exact Lib.below_grow _ w (Nat.le_refl _) k os
  generalize (putRow (fun (b : UInt8) => Value.int .u8 (b.toNat : Int)) (w.alloc (.cells Lib.zeros24 35)) w.heap.size 0 dk).drewN k = W2 at hcells hnx2 ⊢
  have hrow2 := row_add (HR.out.below hnx2 (Nat.le_refl _))
  have hs2 := hnx2.size
  clear eo HH0 HF
  go_wp2_with (at_builtin; refine wpList_append_grows _ rfl _ _ 22 rfl 5 i0 (.int .u8 0) 1 1 Tryd.underlying22 hi hz0 hz1 hz2 rfl (by decide) r n n (Lib.byteCells l) rfl (fun h => ⟨hnil h, hnil h⟩) (by rw [bc_len]; omega) hrow2 ⟨w.heap.size, 0, none⟩ (Lib.nDigits u) 24 (Lib.byteCells (Lib.decDigits u)) rfl ?c0 hcells ?c2 (by omega) ?c3 ?c4 ?_)
  case c0 => rw [Lib.byteCells_length, Lib.decDigits_length, Nat.mul_one]
  case c2 => intro u' hu'; simp only [Lib.byteCells, List.mem_map] at hu'; obtain ⟨b, _, rfl⟩ := hu'; rfl
  case c3 => unfold maxLen; omega
  case c4 => omega
  intro v2 w3 hown' hgrow
  have hb : Below w.heap.size w w3 := hnx2.grown hgrow hs2 (fun k hk => by cases hk)
  have hown2 : w3.ownsRow w.heap.size 5 1 v2 (n + (Lib.decDigits u).length) (Lib.byteCells l ++ Lib.byteCells (Lib.decDigits u)) := by
    rw [Lib.decDigits_length]
    obtain ⟨a1, a2⟩ := hown'
    refine ⟨a1, ?_⟩
    rcases a2 with h | ⟨g, cap, cur, e, hb, r⟩
    · exact .inl h
    · exact .inr ⟨g, cap, cur, e, by omega, r⟩
  clear hown' hgrow
  go_wp2
  go_ret
  exact ⟨_, rfl, hown2, hb⟩
end Go.Proofs.Qxb6602199aDoor

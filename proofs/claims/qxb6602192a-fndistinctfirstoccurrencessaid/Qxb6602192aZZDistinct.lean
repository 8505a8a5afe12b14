import Derived.Test.Qxb6602192aDistinctWalk
import Derived.Test.Qxb6602192aClones
import Derived.BigRegion
namespace Go.Proofs.Qxb6602192a
open Go.RowKit Go.Maps

theorem set3 {xs : List Value} {L : List Pr} {k : Nat} {p : Pr} (h : xs.take (k * 3) = (L.flatMap pc).take (k * 3)) (hp : L[k]? = some p) (hl : k * 3 + 2 < xs.length) :
    (((xs.set (k * 3) (.int .u64 p.1)).set (k * 3 + 1) (.int .u64 p.2.1)).set (k * 3 + 2) (.string p.2.2)).take ((k + 1) * 3) = (L.flatMap pc).take ((k + 1) * 3) := by
  have h1 := take_set_snoc h (by omega) (show (L.flatMap pc)[k * 3]? = some (.int .u64 p.1) from flat_at L k 0 p hp (by omega))
  have h2 := take_set_snoc h1 (by simp; omega) (show (L.flatMap pc)[k * 3 + 1]? = some (.int .u64 p.2.1) from flat_at L k 1 p hp (by omega))
  have h3 := take_set_snoc h2 (by simp; omega) (show (L.flatMap pc)[k * 3 + 2]? = some (.string p.2.2) from flat_at L k 2 p hp (by omega))
  rw [show (k + 1) * 3 = k * 3 + 2 + 1 by omega]
  exact h3

set_option maxHeartbeats 800000 in
theorem zzdistinct_any (a1 a2 a3 : Option Addr) (n p1 p2 p3 : Nat) (L : List Pr) (w : World) (hn : L.length = n) (hb : n ≤ 4096)
    (r1 : Row w a1 (L.map fun p => .int .u64 p.1)) (r2 : Row w a2 (L.map fun p => .int .u64 p.2.1)) (r3 : Row w a3 (L.map fun p => .string p.2.2)) (hok : ∀ p ∈ L, okP p) :
    Calls Try.prog 17 #[.slice a1 n p1, .slice a2 n p2, .slice a3 n p3] w fun e w' => ∃ g1 g2 g3 : Nat,
      e = .returned (.tuple #[.bool false, .slice (some ⟨g1, 0, none⟩) (U L n).length (U L n).length, .slice (some ⟨g2, 0, none⟩) (U L n).length (U L n).length, .slice (some ⟨g3, 0, none⟩) (U L n).length (U L n).length]) ∧
      Row w' (some ⟨g1, 0, none⟩) ((U L n).map fun p => .int .u64 p.1) ∧ Row w' (some ⟨g2, 0, none⟩) ((U L n).map fun p => .int .u64 p.2.1) ∧ Row w' (some ⟨g3, 0, none⟩) ((U L n).map fun p => .string p.2.2) ∧ Below w.heap.size w w' := by
  obtain ⟨i0, hi, hz0, hz1, hz2⟩ := info_parts Try.info53
  go_enter Try.func17, Try.ntmps17
  go_wp2_with (at_make; refine wpList_make_full _ rfl _ _ 51 rfl w.heap.size 53 i0 _ 3 Try.underlying51 hi hz0 hz1 _ _ _ _ n rfl rfl rfl rfl ?b2 ?b3 (Nat.le_refl _) ?_)
  case b2 => rw [hz2]; omega
  case b3 => unfold maxLen; omega
  intro w0 hown0 hgrow0
  have hs0 : w.heap.size < w0.heap.size := (hown0.lt _ rfl).2
  go_wp2
  go_loopw [12] (fun i wr => ∃ (k : Nat) (xs : List Value), k ≤ n ∧ i = .int .i64 k ∧ xs.take (k * 3) = (L.flatMap pc).take (k * 3) ∧
      wr.ownsRow w.heap.size 53 3 (.slice (some ⟨w.heap.size, 0, none⟩) n n) n xs ∧ Below w.heap.size w wr ∧ w.heap.size < wr.heap.size)
    (fun i _ => n - (intOf i).toNat)
  case atStart => exact ⟨0, _, Nat.zero_le _, rfl, by simp, hown0, (Below.refl _ _).grown hgrow0 (Nat.le_refl _) (fun k h => by cases h), hs0⟩
  case round =>
    obtain ⟨k, xs, hk, rfl, htk, hown, hnx, hsz⟩ := hrel
    by_cases hlt : k < n
    · obtain ⟨b1, o1, e1, l1, k1⟩ := r1.split (by simp; omega)
      obtain ⟨b2, o2, e2, l2, k2⟩ := r2.split (by simp; omega)
      obtain ⟨b3, o3, e3, l3, k3⟩ := r3.split (by simp; omega)
      subst e1 e2 e3
      obtain ⟨p, hp⟩ : ∃ p, L[k]? = some p := ⟨L[k], by simp⟩
      have hpe : L[k] = p := Option.some.inj ((List.getElem?_eq_getElem (by omega)).symm.trans hp)
      have c1 : wr.cell? ⟨b1, o1 + k, none⟩ = some (.int .u64 p.1) := by rw [hnx.cell (p := ⟨b1, o1 + k, none⟩) l1, k1 k (by simp; omega)]; simp [hpe]
      have c2 : wr.cell? ⟨b2, o2 + k, none⟩ = some (.int .u64 p.2.1) := by rw [hnx.cell (p := ⟨b2, o2 + k, none⟩) l2, k2 k (by simp; omega)]; simp [hpe]
      have c3 : wr.cell? ⟨b3, o3 + k, none⟩ = some (.string p.2.2) := by rw [hnx.cell (p := ⟨b3, o3 + k, none⟩) l3, k3 k (by simp; omega)]; simp [hpe]
      have hxl : xs.length = n * 3 := hown.1
      have t0 := hown.cellAt (k * 3) (by omega)
      have t1 := hown.cellAt (k * 3 + 1) (by omega)
      have t2 := hown.cellAt (k * 3 + 2) (by omega)
      rw [List.getElem?_eq_getElem (by omega)] at t0 t1 t2
      have f0 := hown.frozenAt (k * 3)
      have f1 := hown.frozenAt (k * 3 + 1)
      have f2 := hown.frozenAt (k * 3 + 2)
      have HP : Hid (L[k]? = some p) := hp
      have HK : Hid (xs.take (k * 3) = (L.flatMap pc).take (k * 3)) := htk
      clear hp hpe k1 k2 k3 htk
      go_wp2
      go_region
      all_goals go_wp2
      go_roundw
      case rel =>
        have S1 := hown.stored (k * 3) (.int .u64 p.1)
        have S2 := S1.1.stored (k * 3 + 1) (.int .u64 p.2.1)
        have S3 := S2.1.stored (k * 3 + 2) (.string p.2.2)
        exact ⟨k + 1, _, by omega, by go_num, set3 HK.out HP.out (by omega), S3.1.drew, (((hnx.setCell (Nat.le_refl _) _).setCell (Nat.le_refl _) _).setCell (Nat.le_refl _) _).drew, by simpa using hsz⟩
      case measure => simp [intOf]; omega
    · have : k = n := by omega
      subst this
      have hxs : xs = L.flatMap pc := by
        have h1 := hown.1
        rw [List.take_of_length_le (by omega), List.take_of_length_le (by rw [flat_len]; omega)] at htk
        exact htk
      subst hxs
      go_wp2_with fail
      refine (distinct_any _ k k L wr hn hb ?_ hok).mono ?_
      · obtain ⟨r, c, e, h, _⟩ := Row.of_owns hown
        cases e
        exact h
      rintro e w1 ⟨rfl, hown1, hbel1⟩
      obtain ⟨wq, hwq⟩ : ∃ wq, wq = wr := ⟨wr, rfl⟩
      subst hwq
      have q51 : ∀ (w : World) (a : Option Addr) (n c n' c' : Nat), (binOp .eql 51 (.slice a n c) (.slice none n' c')).run Try.prog w = .ok (.bool a.isNone) w := fun w a n c n' c' => Lib.run_eql_slice_nil w _ _ a n c n' c' Try.underlying51
      obtain ⟨j0, hj, hy0, hy1, hy2⟩ := info_parts Try.info22
      obtain ⟨l0, hl, hx0, hx1, hx2⟩ := info_parts Try.info9
      have hml := U_len L k
      have hUL : ∀ p ∈ U L k, okP p := fun p hp => hok p (U_sub hp)
      clear hown hgrow0 hown0 htk
      generalize hV : U L k = V at hown1 hml hUL ⊢
      have HV : Hid (U L k = V) := hV
      clear hV
      obtain ⟨m, hm⟩ : ∃ m, m = V.length := ⟨_, rfl⟩
      rw [← hm] at hown1 hml ⊢
      have HM : Hid (m = V.length) := hm
      clear hm
      have hB1 : wq.heap.size < w1.heap.size := (hown1.lt _ rfl).2
      go_wp2_with (first
        | (at_make; refine wpList_make_full _ rfl (.tmp 59) (.tmp 59) 27 rfl w1.heap.size 22 j0 _ 1 Try.underlying27 hj hy0 hy1 _ _ _ _ m rfl rfl rfl rfl (by rw [hy2]; omega) (by unfold maxLen; omega) (Nat.le_refl _) ?_; intro wa hA gA)
        | (at_make; refine wpList_make_full _ rfl (.tmp 62) (.tmp 62) 27 rfl w1.heap.size 22 j0 _ 1 Try.underlying27 hj hy0 hy1 _ _ _ _ m rfl rfl rfl rfl (by rw [hy2]; omega) (by unfold maxLen; omega) gA.size ?_; intro wb hB gB)
        | (at_make; refine wpList_make_full _ rfl (.tmp 65) (.tmp 65) 28 rfl w1.heap.size 9 l0 _ 1 Try.underlying28 hl hx0 hx1 _ _ _ _ m rfl rfl rfl rfl (by rw [hx2]; omega) (by unfold maxLen; omega) (Nat.le_trans gA.size gB.size) ?_; intro wc hC gC))
      have s1 : w1.heap.size < wa.heap.size := (hA.lt _ rfl).2
      have s2 : wa.heap.size < wb.heap.size := (hB.lt _ rfl).2
      have s3 : wb.heap.size < wc.heap.size := (hC.lt _ rfl).2
      go_loopw [17] (fun i wr => ∃ (t : Nat) (xs ys zs : List Value), t ≤ m ∧ i = .int .i64 t ∧ xs.take t = (V.map fun p => Value.int .u64 p.1).take t ∧ ys.take t = (V.map fun p => Value.int .u64 p.2.1).take t ∧ zs.take t = (V.map fun p => Value.string p.2.2).take t ∧
          wr.ownsRow w1.heap.size 22 1 (.slice (some ⟨w1.heap.size, 0, none⟩) m m) m xs ∧ wr.ownsRow w1.heap.size 22 1 (.slice (some ⟨wa.heap.size, 0, none⟩) m m) m ys ∧ wr.ownsRow w1.heap.size 9 1 (.slice (some ⟨wb.heap.size, 0, none⟩) m m) m zs ∧ Below w1.heap.size w1 wr)
        (fun i _ => m - (intOf i).toNat)
      case atStart =>
        exact ⟨0, _, _, _, Nat.zero_le _, rfl, by simp, by simp, by simp, (hA.kept gB (.inr (by simp [Value.ownBlock]))).kept gC (.inr (by simp [Value.ownBlock])), hB.kept gC (.inr (by simp [Value.ownBlock])), hC,
          (((Below.refl _ _).grown gA (Nat.le_refl _) (fun j h => by cases h)).grown gB (by omega) (fun j h => by cases h)).grown gC (by omega) (fun j h => by cases h)⟩
      case round =>
        obtain ⟨t, xs, ys, zs, ht, rfl, tx, ty, tz, hX, hY, hZ, hnz⟩ := hrel
        by_cases hlt : t < m
        · obtain ⟨p, hp⟩ : ∃ p, V[t]? = some p := ⟨V[t]'(by rw [← HM.out]; exact hlt), List.getElem?_eq_getElem _⟩
          have hcell : ∀ i, i < 3 → wr.cell? ⟨wq.heap.size, t * 3 + i, none⟩ = (pc p)[i]? := fun i hi => by
            rw [hnz.cell (p := ⟨wq.heap.size, t * 3 + i, none⟩) hB1, hown1.cellAt (t * 3 + i) (by omega), ← flat_at V t i p hp hi]
          have c0 : wr.cell? ⟨wq.heap.size, t * 3, none⟩ = some (.int .u64 p.1) := hcell 0 (by omega)
          have c1 : wr.cell? ⟨wq.heap.size, t * 3 + 1, none⟩ = some (.int .u64 p.2.1) := hcell 1 (by omega)
          have c2 : wr.cell? ⟨wq.heap.size, t * 3 + 2, none⟩ = some (.string p.2.2) := hcell 2 (by omega)
          have lx : xs.length = m := by have := hX.1; omega
          have ly : ys.length = m := by have := hY.1; omega
          have lz : zs.length = m := by have := hZ.1; omega
          have d0 := hX.cellAt t (by omega)
          have d1 := hY.cellAt t (by omega)
          have d2 := hZ.cellAt t (by omega)
          rw [List.getElem?_eq_getElem (by omega)] at d0 d1 d2
          have f0 := hX.frozenAt t
          have f1 := hY.frozenAt t
          have f2 := hZ.frozenAt t
          have TX : Hid ((xs.set t (.int .u64 p.1)).take (t + 1) = (V.map fun p => Value.int .u64 p.1).take (t + 1)) := take_set_snoc tx (by omega) (by simp [hp])
          have TY : Hid ((ys.set t (.int .u64 p.2.1)).take (t + 1) = (V.map fun p => Value.int .u64 p.2.1).take (t + 1)) := take_set_snoc ty (by omega) (by simp [hp])
          have TZ : Hid ((zs.set t (.string p.2.2)).take (t + 1) = (V.map fun p => Value.string p.2.2).take (t + 1)) := take_set_snoc tz (by omega) (by simp [hp])
          clear hp hcell tx ty tz
          have n1 : wq.heap.size ≠ w1.heap.size := by omega
          have n2 : wq.heap.size ≠ wa.heap.size := by omega
          have n3 : wq.heap.size ≠ wb.heap.size := by omega
          have n4 : wa.heap.size ≠ w1.heap.size := by omega
          have n5 : wb.heap.size ≠ w1.heap.size := by omega
          have n6 : wb.heap.size ≠ wa.heap.size := by omega
          go_wp2
          go_roundw
          case rel =>
            have X1 := hX.stored t (.int .u64 p.1)
            have Y1 := hY.kept X1.2 (.inr (by simp [Value.ownBlock]; omega))
            have Z1 := hZ.kept X1.2 (.inr (by simp [Value.ownBlock]; omega))
            have Y2 := Y1.stored t (.int .u64 p.2.1)
            have X2 := X1.1.kept Y2.2 (.inr (by simp [Value.ownBlock]; omega))
            have Z2 := Z1.kept Y2.2 (.inr (by simp [Value.ownBlock]; omega))
            have Z3 := Z2.stored t (.string p.2.2)
            have X3 := X2.kept Z3.2 (.inr (by simp [Value.ownBlock]; omega))
            have Y3 := Y2.1.kept Z3.2 (.inr (by simp [Value.ownBlock]; omega))
            exact ⟨t + 1, _, _, _, by omega, by go_num, TX.out, TY.out, TZ.out, X3, Y3, Z3.1, ((hnz.setCell (Nat.le_refl _) _).setCell (by simp; omega) _).setCell (by simp; omega) _⟩
          case measure => simp [intOf]; omega
        · have : t = m := by omega
          subst this
          have e1 := hX.1
          have e2 := hY.1
          have e3 := hZ.1
          have hVl := HM.out
          rw [List.take_of_length_le (by omega), List.take_of_length_le (by simp; omega)] at tx ty tz
          subst tx ty tz
          have FX : ∀ {e : TypeId} {g : Nat} {l : List Value}, wr.ownsRow w1.heap.size e 1 (.slice (some ⟨g, 0, none⟩) t t) t l → Row wr (some ⟨g, 0, none⟩) l := fun h => by
            obtain ⟨r, c, e, h', _⟩ := Row.of_owns h
            cases e
            exact h'
          have X := FX hX
          have Y := FX hY
          have Z := FX hZ
          have FB : Below w.heap.size w wr := (hnx.trans (hbel1.mono (by omega))).trans (hnz.mono (by omega))
          clear hVl
          go_wp2
          refine bodyPost_ret (v := .tuple #[.bool false, .slice (some ⟨w1.heap.size, 0, none⟩) t t, .slice (some ⟨wa.heap.size, 0, none⟩) t t, .slice (some ⟨wb.heap.size, 0, none⟩) t t]) (by simp [results, Try.results17, go_sem]) rfl ?_
          have hVl := HM.out
          rw [HV.out, ← hVl]
          exact ⟨_, _, _, rfl, X, Y, Z, FB⟩
end Go.Proofs.Qxb6602192a

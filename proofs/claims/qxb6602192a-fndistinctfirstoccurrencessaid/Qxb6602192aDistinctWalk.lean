import Derived.Test.Qxb6602192aKeys
namespace Go.Proofs.Qxb6602192a
open Go.RowKit Go.Maps
theorem Try.info53 : (Try.prog.info? 53).map (fun i => (i.zero, i.size, i.bytes)) = some (some (.agg #[.int .u64 0, .int .u64 0, .string ⟨#[]⟩]), 3, 32) := by kernel_rfl
theorem run_makeMap68 (n : Nat) (w : World) : (Instr.makeMap 68 (some (.int .i64 n))).run Try.prog w = .ok (.map (some w.heap.size)) (w.alloc (.map #[] 0)) := by
  simp [Instr.makeMap, run_underlying Try.underlying68, asInt, asIntOf]

theorem cell_three_new (w : World) (x y z : Value) (t : TypeId) : ∀ j u, [x, y, z][j]? = some u → (w.alloc (.cells #[x, y, z] t)).cell? ((⟨w.heap.size, 0, none⟩ : Addr).add j) = some u := by
  intro j u hj
  match j, hj with
  | 0, hj => simp at hj; subst hj; simp [Addr.add]
  | 1, hj => simp at hj; subst hj; simp [Addr.add]
  | 2, hj => simp at hj; subst hj; simp [Addr.add]
theorem flat_at (L : List Pr) (k i : Nat) (p : Pr) (h : L[k]? = some p) (hi : i < 3) : (L.flatMap pc)[k * 3 + i]? = (pc p)[i]? := by
  induction L generalizing k with
  | nil => simp at h
  | cons q r ih =>
    cases k with
    | zero =>
      simp at h
      subst h
      rw [List.flatMap_cons, List.getElem?_append_left (by simp [pc_length]; omega)]
      simp
    | succ k =>
      simp at h
      rw [List.flatMap_cons, List.getElem?_append_right (by simp [pc_length]; omega), ← ih k h]
      congr 1
      simp [pc_length]
      omega
theorem flat_len (L : List Pr) : (L.flatMap pc).length = L.length * 3 := by
  induction L with
  | nil => rfl
  | cons q r ih => rw [List.flatMap_cons, List.length_append, ih, pc_length, List.length_cons]; omega

set_option maxHeartbeats 800000 in
theorem distinct_any (ao : Option Addr) (n cap : Nat) (L : List Pr) (w : World) (hn : L.length = n) (hb : n ≤ 4096) (hrow : Row w ao (L.flatMap pc)) (hok : ∀ p ∈ L, okP p) :
    Calls Try.prog 32 #[.slice ao n cap] w fun e w' => e = .returned (.slice (some ⟨w.heap.size, 0, none⟩) (U L n).length n) ∧
      w'.ownsRow w.heap.size 53 3 (.slice (some ⟨w.heap.size, 0, none⟩) (U L n).length n) (U L n).length ((U L n).flatMap pc) ∧ Below w.heap.size w w' := by
  obtain ⟨i0, hi, hz0, hz1, hz2⟩ := info_parts Try.info53
  have hmm := run_makeMap68
  go_enter Try.func32, Try.ntmps32
  go_wp2_with (at_make; refine wpList_make_own _ rfl _ _ 51 rfl w.heap.size 53 i0 _ 3 Try.underlying51 hi hz0 hz1 _ _ _ n rfl rfl rfl ?b2 ?b3 (Nat.le_refl _) ?_)
  case b2 => rw [hz2]; omega
  case b3 => unfold maxLen; omega
  intro w0 hown0 hgrow0
  go_wp2
  have hs0 : w.heap.size < w0.heap.size := (hown0.lt _ rfl).2
  go_loopw [3, 15] (fun v i wr => ∃ (k : Nat) (D : DataW Unit), k ≤ n ∧ i = .int .i64 k ∧ v = .slice (some ⟨w.heap.size, 0, none⟩) (U L k).length n ∧
      wr.ownsRow w.heap.size 53 3 (.slice (some ⟨w.heap.size, 0, none⟩) (U L k).length n) (U L k).length ((U L k).flatMap pc) ∧ wr.ownsMap Try.prog 53 (plainElem Try.prog 4) w0.heap.size k D ∧
      (∀ q ∈ L, D.atKey (keyL q) (.lit (.bool false)) = .lit (.bool (inP q (U L k)))) ∧ Below w.heap.size w wr ∧ w.heap.size + 1 ≤ wr.heap.size)
    (fun _ i _ => n - (intOf i).toNat)
  case atStart => exact ⟨0, .map [], Nat.zero_le _, rfl, rfl, hown0.alloc _, World.ownsMap_made _ _ _ _, fun q _ => rfl, ((Below.refl _ _).grown hgrow0 (Nat.le_refl _) (fun k h => by cases h)).alloc (by omega) _, by simp; omega⟩
  case round =>
    obtain ⟨k, D, hk, rfl, rfl, hown, hmap, hD, hnx, hsz⟩ := hrel
    by_cases hlt : k < n
    · obtain ⟨b, off, ea, hbl, hc⟩ := hrow.split (by rw [flat_len]; omega)
      subst ea
      obtain ⟨p, hp⟩ : ∃ p, L[k]? = some p := ⟨L[k], by simp⟩
      have hpL : p ∈ L := List.mem_of_getElem? hp
      have hpo := hok p hpL
      have hcell : ∀ i, i < 3 → wr.cell? ⟨b, off + (k * 3 + i), none⟩ = (pc p)[i]? := fun i hi => by
        rw [hnx.cell (p := ⟨b, off + (k * 3 + i), none⟩) hbl, hc (k * 3 + i) (by rw [flat_len]; omega), ← flat_at L k i p hp hi]
        exact (List.getElem?_eq_getElem _).symm
      have c0 : wr.cell? ⟨b, off + k * 3, none⟩ = some (.int .u64 p.1) := hcell 0 (by omega)
      have c1 : wr.cell? ⟨b, off + k * 3 + 1, none⟩ = some (.int .u64 p.2.1) := hcell 1 (by omega)
      have c2 : wr.cell? ⟨b, off + k * 3 + 2, none⟩ = some (.string p.2.2) := hcell 2 (by omega)
      clear hcell hc
      have HP : Hid (L[k]? = some p) := hp
      clear hp
      by_cases hin : p ∈ U L k
      · have hseen := fun o => seen_run (hmap.alloc o) hpo ((hD p hpL).trans (by rw [(inP_iff _ _).2 hin]))
        have HU : Hid (U L (k + 1) = U L k) := U_old HP.out hin
        have HD : Hid (∀ q ∈ L, D.atKey (keyL q) (.lit (.bool false)) = .lit (.bool (inP q (U L k)))) := hD
        clear hD
        go_wp2
        go_roundw
        case rel => exact ⟨k + 1, D, by omega, by go_num, by rw [HU.out], by rw [HU.out]; exact hown.alloc _, (hmap.alloc _).mono (by omega), by rw [HU.out]; exact HD.out, hnx.alloc (by omega) _, by simp; omega⟩
        case measure => simp [intOf]; omega
      · have hseen := fun o => seen_run (hmap.alloc o) hpo ((hD p hpL).trans (by rw [inP_not hin]))
        have hlt0 : w0.heap.size < wr.heap.size := hmap.lt
        have hul := U_len L k
        have HU : Hid (U L (k + 1) = U L k ++ [p]) := U_new HP.out hin
        have HD : Hid (∀ q ∈ L, (D.put (keyL p) (.lit (.bool true))).atKey (keyL q) (.lit (.bool false)) = .lit (.bool (inP q (U L (k + 1))))) := by
          intro q hq
          rw [HU.out]
          by_cases e : q = p
          · subst e
            rw [atKey_put_same hmap.isMap (keyL_isKey _), (inP_iff _ _).2 (by simp)]
          · rw [atKey_put_other (fun h => e (keyL_inj (hok q hq) hpo h)), hD q hq]
            congr 2
            rw [Bool.eq_iff_iff, inP_iff, inP_iff]
            simp [e]
        clear hD
        go_wp2_with (first
          | (at_mapUpdate; refine wpList_mapUpdate_own _ rfl _ _ _ 68 rfl 53 4 keyed53 Try.underlying68 (plainElem (H := Unit) Try.prog 4) w0.heap.size k D rfl (hmap.alloc _) (by unfold maxLen; omega) _ _ _ rfl rfl (keyOf53 hpo) _ [] (plainElem_bool Try.underlying4 true) ?_; intro w1 hown1 hgrow1; have d0 : w1.cell? ⟨wr.heap.size, 0, none⟩ = some (.int .u64 p.1) := hgrow1.cell (by simp) (by simp; omega); have d1 : w1.cell? ⟨wr.heap.size, 1, none⟩ = some (.int .u64 p.2.1) := hgrow1.cell (by simp) (by simp; omega); have d2 : w1.cell? ⟨wr.heap.size, 2, none⟩ = some (.string p.2.2) := hgrow1.cell (by simp) (by simp; omega))
          | (at_builtin; refine wpList_append_fits _ rfl _ _ 51 rfl w.heap.size 53 i0 3 Try.underlying51 hi hz1 w.heap.size (U L k).length n _ rfl (((hown.alloc _).kept hgrow1 (.inr (by simp [Value.ownBlock]; omega))).alloc _) ⟨w1.heap.size, 0, none⟩ 1 1 (pc p) rfl rfl (cell_three_new _ _ _ _ _) (by simp [pc, Value.oneCell']) (by omega) ?_; intro w2 hown2 hgrow2)
          | go_in)
        have s1 := hgrow1.size
        have s2 := hgrow2.size
        simp at s1 s2
        go_roundw
        case rel =>
          refine ⟨k + 1, _, by omega, by go_num, by rw [HU.out]; simp, ?_, ?_, HD.out, ?_, by omega⟩
          · rw [HU.out]
            simpa using hown2
          · exact (hown1.alloc _).kept hgrow2 (by simp; omega)
          · exact ((((hnx.alloc (by omega) _).grown hgrow1 (by simp; omega) (fun j hj => by cases hj; omega)).alloc (by omega) _).grown hgrow2 (by simp; omega) (fun j hj => by cases hj; exact Nat.le_refl _))
        case measure => simp [intOf]; omega
    · have : k = n := by omega
      subst this
      go_wp2
      go_ret
      exact ⟨rfl, hown, hnx⟩
end Go.Proofs.Qxb6602192a

import Derived.Test.Qxb6602199aDoorProg
import Derived.Test.Qxb6602199aDoorKit
import Derived.Test.Qxb6602199aDoorDec
import Derived.Lib.UnsafeStr
import Derived.BigQuiet
import Derived.Deep.QuietTactic
import Derived.WalkSmall
namespace Go.Proofs.Qxb6602199aDoor
open Go.RowKit
theorem Tryd.info5' : (Tryd.prog.info? 5).map (fun i => (i.zero, i.size, i.bytes)) = some (some (.int .u8 0), 1, 1) := by kernel_rfl

theorem bc_get (l : List UInt8) (k : Nat) : (Lib.byteCells l)[k]? = l[k]?.map fun b => Value.int .u8 b.toNat := by simp [Lib.byteCells]
theorem bc_len (l : List UInt8) : (Lib.byteCells l).length = l.length := by simp [Lib.byteCells]
/-- One byte of a row. -/
theorem Row.byte {w : World} {b off : Nat} {l : List UInt8} (h : Row w (some ⟨b, off, none⟩) (Lib.byteCells l)) {k : Nat} {c : UInt8} (hk : l[k]? = some c) : w.cell? ⟨b, off + k, none⟩ = some (.int .u8 c.toNat) := by
  obtain ⟨b', off', e, hc⟩ := h k (.int .u8 c.toNat) (by rw [bc_get, hk]; rfl)
  cases e
  exact hc
theorem Row.shape {w : World} {ao : Option Addr} {l : List UInt8} (h : Row w ao (Lib.byteCells l)) (hp : 0 < l.length) : ∃ b off, ao = some ⟨b, off, none⟩ := by
  obtain ⟨b, off, e, _⟩ := h.split (by rw [bc_len]; exact hp)
  exact ⟨b, off, e⟩
theorem Row.drewN {w : World} {ao : Option Addr} {xs : List Value} (h : Row w ao xs) (n : Nat) : Row (w.drewN n) ao xs := h
theorem u8_ne {a b : UInt8} (h : a ≠ b) : ((a.toNat : Int) != (b.toNat : Int)) = true := by
  rw [bne_iff_ne]
  intro e
  exact h (UInt8.toNat_inj.1 (by omega))

theorem take_succ_eq {l1 l2 : List UInt8} {k : Nat} {c : UInt8} (h : l1.take k = l2.take k) (h1 : l1[k]? = some c) (h2 : l2[k]? = some c) : l1.take (k + 1) = l2.take (k + 1) := by
  rw [List.take_add_one, List.take_add_one, h, h1, h2]
theorem ne_of_at {l1 l2 : List UInt8} {k : Nat} {c d : UInt8} (h1 : l1[k]? = some c) (h2 : l2[k]? = some d) (h : c ≠ d) : l1 ≠ l2 := by
  rintro rfl
  rw [h1] at h2
  exact h (Option.some.inj h2)
theorem lexL_at : ∀ {l1 l2 : List UInt8} {k : Nat} {c d : UInt8}, l1.take k = l2.take k → l1[k]? = some c → l2[k]? = some d → c ≠ d → lexL l1 l2 = decide (c < d)
  | [], _, _, _, _, _, h1, _, _ => by simp at h1
  | _, [], _, _, _, _, _, h2, _ => by simp at h2
  | a :: r, b :: s, 0, c, d, _, h1, h2, h => by
    simp at h1 h2
    subst h1 h2
    simp [lexL, h]
  | a :: r, b :: s, k + 1, c, d, ht, h1, h2, h => by
    simp only [List.take_succ_cons, List.cons.injEq] at ht
    obtain ⟨rfl, ht⟩ := ht
    simp at h1 h2
    simp only [lexL, if_true]
    exact lexL_at ht h1 h2 h

set_option maxHeartbeats 800000 in
theorem bytesEqual_any (a1 a2 : Option Addr) (c1 c2 : Nat) (l1 l2 : List UInt8) (w : World) (hm1 : l1.length ≤ 2000000) (hm2 : l2.length ≤ 2000000) (r1 : Row w a1 (Lib.byteCells l1)) (r2 : Row w a2 (Lib.byteCells l2)) :
    Calls Tryd.prog 11 #[.slice a1 l1.length c1, .slice a2 l2.length c2] w fun e w' => e = .returned (.bool (decide (l1 = l2))) ∧ ∃ nq, w' = w.drewN nq := by
  obtain ⟨n1, hn1⟩ : ∃ n1, n1 = l1.length := ⟨_, rfl⟩
  obtain ⟨n2, hn2⟩ : ∃ n2, n2 = l2.length := ⟨_, rfl⟩
  rw [← hn1] at hm1 ⊢
  rw [← hn2] at hm2 ⊢
  have H1 : Hid (n1 = l1.length) := hn1
  have H2 : Hid (n2 = l2.length) := hn2
  clear hn1 hn2
  by_cases e : n1 = n2
  · subst e
    go_enter Tryd.func11, Tryd.ntmps11
    go_wp2
    go_loopw [5] (fun i wr => ∃ k : Nat, k ≤ n1 ∧ i = .int .i64 k ∧ Hid (l1.take k = l2.take k) ∧ ∃ nq, wr = w.drewN nq) (fun i _ => n1 - (intOf i).toNat)
    case atStart => exact ⟨0, Nat.zero_le _, rfl, rfl, 0, rfl⟩
    case round =>
      obtain ⟨k, hk, rfl, HT, nq, rfl⟩ := hrel
      by_cases hlt : k < n1
      · obtain ⟨c, hc⟩ : ∃ c, l1[k]? = some c := ⟨l1[k]'(by rw [← H1.out]; exact hlt), List.getElem?_eq_getElem _⟩
        obtain ⟨d, hd⟩ : ∃ d, l2[k]? = some d := ⟨l2[k]'(by rw [← H2.out]; exact hlt), List.getElem?_eq_getElem _⟩
        obtain ⟨b1, o1, e1⟩ := r1.shape (by rw [← H1.out]; omega)
        obtain ⟨b2, o2, e2⟩ := r2.shape (by rw [← H2.out]; omega)
        subst e1 e2
        have x1 := r1.byte hc
        have x2 := r2.byte hd
        have HC : Hid (l1[k]? = some c) := hc
        have HD : Hid (l2[k]? = some d) := hd
        clear hc hd
        by_cases hcd : c = d
        · subst hcd
          go_wp2
          go_quiet (fail)
          go_wp2
          go_roundw
          case rel => exact ⟨k + 1, by omega, by go_num, take_succ_eq HT.out HC.out HD.out, _, rfl⟩
          case measure => simp [intOf]; omega
        · have hne := u8_ne hcd
          go_wp2
          go_quiet (fail)
          go_wp2
          go_ret
          exact ⟨by rw [decide_eq_false (ne_of_at HC.out HD.out hcd)]; rfl, by simp only [World.drewN_drewN]; exact ⟨_, rfl⟩⟩
      · have hk' : k = n1 := by omega
        subst hk'
        go_wp2
        go_ret
        have : l1 = l2 := by
          have := HT.out
          rwa [List.take_of_length_le (by rw [← H1.out]; exact Nat.le_refl _), List.take_of_length_le (by rw [← H2.out]; exact Nat.le_refl _)] at this
        exact ⟨by rw [decide_eq_true this]; rfl, _, rfl⟩
  · have hne : ((n1 : Int) != (n2 : Int)) = true := by rw [bne_iff_ne]; omega
    go_enter Tryd.func11, Tryd.ntmps11
    go_wp2
    go_ret
    exact ⟨by rw [decide_eq_false (fun h => e (by rw [H1.out, H2.out, h]))]; rfl, 0, rfl⟩

set_option maxHeartbeats 800000 in
theorem shortlexLess_any (a1 a2 : Option Addr) (c1 c2 : Nat) (l1 l2 : List UInt8) (w : World) (hm1 : l1.length ≤ 2000000) (hm2 : l2.length ≤ 2000000) (r1 : Row w a1 (Lib.byteCells l1)) (r2 : Row w a2 (Lib.byteCells l2)) :
    Calls Tryd.prog 14 #[.slice a1 l1.length c1, .slice a2 l2.length c2] w fun e w' => e = .returned (.bool (slex l1 l2)) ∧ ∃ nq, w' = w.drewN nq := by
  obtain ⟨n1, hn1⟩ : ∃ n1, n1 = l1.length := ⟨_, rfl⟩
  obtain ⟨n2, hn2⟩ : ∃ n2, n2 = l2.length := ⟨_, rfl⟩
  rw [← hn1] at hm1 ⊢
  rw [← hn2] at hm2 ⊢
  have H1 : Hid (n1 = l1.length) := hn1
  have H2 : Hid (n2 = l2.length) := hn2
  clear hn1 hn2
  by_cases e : n1 = n2
  · subst e
    have HE : Hid (slex l1 l2 = lexL l1 l2) := by unfold slex; rw [if_pos (by rw [← H1.out, ← H2.out])]; exact rfl
    go_enter Tryd.func14, Tryd.ntmps14
    go_wp2
    go_loopw [5] (fun i wr => ∃ k : Nat, k ≤ n1 ∧ i = .int .i64 k ∧ Hid (l1.take k = l2.take k) ∧ ∃ nq, wr = w.drewN nq) (fun i _ => n1 - (intOf i).toNat)
    case atStart => exact ⟨0, Nat.zero_le _, rfl, rfl, 0, rfl⟩
    case round =>
      obtain ⟨k, hk, rfl, HT, nq, rfl⟩ := hrel
      by_cases hlt : k < n1
      · obtain ⟨c, hc⟩ : ∃ c, l1[k]? = some c := ⟨l1[k]'(by rw [← H1.out]; exact hlt), List.getElem?_eq_getElem _⟩
        obtain ⟨d, hd⟩ : ∃ d, l2[k]? = some d := ⟨l2[k]'(by rw [← H2.out]; exact hlt), List.getElem?_eq_getElem _⟩
        obtain ⟨b1, o1, e1⟩ := r1.shape (by rw [← H1.out]; omega)
        obtain ⟨b2, o2, e2⟩ := r2.shape (by rw [← H2.out]; omega)
        subst e1 e2
        have x1 := r1.byte hc
        have x2 := r2.byte hd
        have HC : Hid (l1[k]? = some c) := hc
        have HD : Hid (l2[k]? = some d) := hd
        clear hc hd
        by_cases hcd : c = d
        · subst hcd
          go_wp2
          go_quiet (fail)
          go_wp2
          go_roundw
          case rel => exact ⟨k + 1, by omega, by go_num, take_succ_eq HT.out HC.out HD.out, _, rfl⟩
          case measure => simp [intOf]; omega
        · have hne := u8_ne hcd
          go_wp2
          go_quiet (fail)
          go_wp2
          go_quiet (fail)
          go_wp2
          go_ret
          refine ⟨?_, by simp only [World.drewN_drewN]; exact ⟨_, rfl⟩⟩
          rw [HE.out, lexL_at HT.out HC.out HD.out hcd]
          rfl
      · have hk' : k = n1 := by omega
        subst hk'
        go_wp2
        go_ret
        have : l1 = l2 := by
          have := HT.out
          rwa [List.take_of_length_le (by rw [← H1.out]; exact Nat.le_refl _), List.take_of_length_le (by rw [← H2.out]; exact Nat.le_refl _)] at this
        exact ⟨by rw [HE.out, this, lexL_self]; rfl, _, rfl⟩
  · have hne : ((n1 : Int) != (n2 : Int)) = true := by rw [bne_iff_ne]; omega
    have HE : Hid (slex l1 l2 = decide (n1 < n2)) := by unfold slex; rw [if_neg (by rw [← H1.out, ← H2.out]; exact e), ← H1.out, ← H2.out]; rfl
    go_enter Tryd.func14, Tryd.ntmps14
    go_wp2
    go_ret
    refine ⟨?_, 0, rfl⟩
    rw [HE.out]
    simp
end Go.Proofs.Qxb6602199aDoor

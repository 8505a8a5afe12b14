import Derived.Test.Qxb6602192aProg
import Derived.Test.Qxb6602192aKit
namespace Go.Proofs.Qxb6602192a
open Go.RowKit

def SomeBool (e : Ending) : Prop := ∃ b : Bool, e = .returned (.bool b)

set_option maxHeartbeats 800000 in
/-- zzBytes: it answers some bool and only reads. -/
theorem zzBytes_any (a1 a2 ao : Option Addr) (n1 n2 n c1 c2 cap : Nat) (ss : List ByteArray) (w : World) (hn : ss.length = n) (h1 : n1 ≤ maxLen) (h2 : n2 ≤ maxLen) (hm : n ≤ maxLen)
    (hsz : ∀ s ∈ ss, s.size ≤ maxLen) (hrow : Row w ao (ss.map .string)) :
    Calls Try.prog 12 #[.slice a1 n1 c1, .slice a2 n2 c2, .slice ao n cap] w fun e w' => SomeBool e ∧ w' = w := by
  unfold maxLen at *
  by_cases g1 : 1048576 < n1
  · go_enter Try.func12, Try.ntmps12
    go_wp2
    go_ret
    exact ⟨⟨_, rfl⟩, rfl⟩
  by_cases g2 : 1048576 < n2
  · go_enter Try.func12, Try.ntmps12
    go_wp2
    go_ret
    exact ⟨⟨_, rfl⟩, rfl⟩
  by_cases g3 : 1048576 < n1 + n2
  · go_enter Try.func12, Try.ntmps12
    go_wp2
    go_ret
    exact ⟨⟨_, rfl⟩, rfl⟩
  by_cases g4 : 1048576 < n
  · go_enter Try.func12, Try.ntmps12
    go_wp2
    go_ret
    exact ⟨⟨_, rfl⟩, rfl⟩
  by_cases g5 : 1048576 < n1 + n2 + n
  · go_enter Try.func12, Try.ntmps12
    go_wp2
    go_ret
    exact ⟨⟨_, rfl⟩, rfl⟩
  go_enter Try.func12, Try.ntmps12
  go_wp2
  go_loop [7, 8] (fun t i => ∃ (k t0 : Nat), k ≤ n ∧ t0 ≤ 1048576 ∧ i = .int .i64 k ∧ t = .int .i64 t0) (fun _ i => n - (intOf i).toNat)
  case atStart => exact ⟨0, n1 + n2 + n, Nat.zero_le _, by omega, rfl, by go_num⟩
  case round =>
    obtain ⟨k, t0, hk, ht, rfl, rfl⟩ := hrel
    by_cases hlt : k < n
    · obtain ⟨b, off, ea, hbl, hc⟩ := hrow.split (by simp; omega)
      subst ea
      have hck := hc k (by simp; omega)
      obtain ⟨s, hs, hcs⟩ : ∃ s : ByteArray, s.size ≤ 9223372036854775807 ∧ w.cell? ⟨b, off + k, none⟩ = some (.string s) := ⟨ss[k], hsz _ (List.getElem_mem _), by rw [hck]; simp⟩
      clear hc hck
      by_cases s1 : 1048576 < s.size
      · go_wp2
        go_ret
        exact ⟨⟨_, rfl⟩, rfl⟩
      by_cases s2 : 1048576 < t0 + s.size
      · go_wp2
        go_ret
        exact ⟨⟨_, rfl⟩, rfl⟩
      go_wp2
      go_round
      case rel => exact ⟨k + 1, t0 + s.size, by omega, by omega, by go_num, by go_num⟩
      case measure => simp [intOf]; omega
    · go_wp2
      go_ret
      exact ⟨⟨_, rfl⟩, rfl⟩

set_option maxHeartbeats 800000 in
/-- peersBytesOK, behind the law's own bound on the lengths: it answers some bool and only reads. -/
theorem bytesOK_any (a1 a2 ao : Option Addr) (n1 n2 n c1 c2 cap : Nat) (ss : List ByteArray) (w : World) (hn : ss.length = n) (h1 : n1 ≤ 4096) (h2 : n2 ≤ 4096) (hm : n ≤ 4096)
    (hsz : ∀ s ∈ ss, s.size ≤ maxLen) (hrow : Row w ao (ss.map .string)) :
    Calls Try.prog 13 #[.slice a1 n1 c1, .slice a2 n2 c2, .slice ao n cap] w fun e w' => SomeBool e ∧ w' = w := by
  unfold maxLen at *
  go_enter Try.func13, Try.ntmps13
  go_wp2
  go_loop [7, 8] (fun t i => ∃ (k t0 : Nat), k ≤ n ∧ t0 ≤ 1048576 ∧ i = .int .i64 k ∧ t = .int .i64 t0) (fun _ i => n - (intOf i).toNat)
  case atStart => exact ⟨0, 8 * n1 + 8 * n2 + 16 * n, Nat.zero_le _, by omega, rfl, by go_num⟩
  case round =>
    obtain ⟨k, t0, hk, ht, rfl, rfl⟩ := hrel
    by_cases hlt : k < n
    · obtain ⟨b, off, ea, hbl, hc⟩ := hrow.split (by simp; omega)
      subst ea
      have hck := hc k (by simp; omega)
      obtain ⟨s, hs, hcs⟩ : ∃ s : ByteArray, s.size ≤ 9223372036854775807 ∧ w.cell? ⟨b, off + k, none⟩ = some (.string s) := ⟨ss[k], hsz _ (List.getElem_mem _), by rw [hck]; simp⟩
      clear hc hck
      by_cases s1 : 1048576 < s.size
      · go_wp2
        go_ret
        exact ⟨⟨_, rfl⟩, rfl⟩
      by_cases s2 : 1048576 < t0 + s.size
      · go_wp2
        go_ret
        exact ⟨⟨_, rfl⟩, rfl⟩
      go_wp2
      go_round
      case rel => exact ⟨k + 1, t0 + s.size, by omega, by omega, by go_num, by go_num⟩
      case measure => simp [intOf]; omega
    · go_wp2
      go_ret
      exact ⟨⟨_, rfl⟩, rfl⟩

set_option maxHeartbeats 400000 in
theorem shapeOK_any (a1 a2 ao : Option Addr) (n1 n2 n c1 c2 cap : Nat) (w : World) :
    Calls Try.prog 14 #[.slice a1 n1 c1, .slice a2 n2 c2, .slice ao n cap] w fun e w' => e = .returned (.bool (decide (n2 = n1 ∧ n = n1))) ∧ w' = w := by
  by_cases e1 : n2 = n1
  · by_cases e2 : n = n1
    · subst e1 e2
      go_enter Try.func14, Try.ntmps14
      go_wp2
      go_ret
      exact ⟨by simp, rfl⟩
    · have e2' : ((n : Int) == (n1 : Int)) = false := by simp; omega
      subst e1
      go_enter Try.func14, Try.ntmps14
      go_wp2
      go_ret
      exact ⟨by simp [e2], rfl⟩
  · have e1' : ((n2 : Int) == (n1 : Int)) = false := by simp; omega
    go_enter Try.func14, Try.ntmps14
    go_wp2
    go_ret
    exact ⟨by simp [e1], rfl⟩
end Go.Proofs.Qxb6602192a

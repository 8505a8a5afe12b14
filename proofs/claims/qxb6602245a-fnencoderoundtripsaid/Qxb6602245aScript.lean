/-
  A WHOLE SCRIPT CODED, AND WHY THE DECODER FOLLOWS IT: plain, over Nat and lists of bytes. No Go in sight.
-/
import Derived.Test.Qxb6602245aCoder
namespace Go.Proofs.Qxb6602245a.Coder

/-- The script's bits with their chances, coded from the interval [lo, hi]. -/
def run (lo hi : Nat) : List (Bool × Nat) → List UInt8 × Nat × Nat
  | [] => ([], lo, hi)
  | x :: r => ((enc lo hi x.2 x.1).1 ++ (run (enc lo hi x.2 x.1).2.1 (enc lo hi x.2 x.1).2.2 r).1, (run (enc lo hi x.2 x.1).2.1 (enc lo hi x.2 x.1).2.2 r).2)

theorem run_snoc (S : List (Bool × Nat)) : ∀ (lo hi : Nat) (x : Bool × Nat),
    run lo hi (S ++ [x]) = ((run lo hi S).1 ++ (enc (run lo hi S).2.1 (run lo hi S).2.2 x.2 x.1).1, (enc (run lo hi S).2.1 (run lo hi S).2.2 x.2 x.1).2) := by
  induction S with
  | nil => intro lo hi x; simp [run]
  | cons z r ih =>
    intro lo hi x
    rw [List.cons_append, run, ih, run]
    simp

theorem run_append (S T : List (Bool × Nat)) : ∀ lo hi, run lo hi (S ++ T) = ((run lo hi S).1 ++ (run (run lo hi S).2.1 (run lo hi S).2.2 T).1, (run (run lo hi S).2.1 (run lo hi S).2.2 T).2) := by
  induction S with
  | nil => intro lo hi; simp [run]
  | cons z r ih =>
    intro lo hi
    rw [List.cons_append, run, ih, run]
    simp

def Good (S : List (Bool × Nat)) : Prop := ∀ x ∈ S, x.2 ≤ 65535

theorem enc_facts' {lo hi p : Nat} (y : Bool) (h : lo < hi) (hh : hi < 4294967296) (hp : p ≤ 65535) :
    (enc lo hi p y).1.length ≤ 4 ∧ (enc lo hi p y).2.1 < (enc lo hi p y).2.2 ∧ (enc lo hi p y).2.2 < 4294967296 := by
  have := enc_facts (bs := (enc lo hi p y).1) (l2 := (enc lo hi p y).2.1) (h2 := (enc lo hi p y).2.2) (y := y) h hh hp rfl
  exact ⟨this.1, this.2.1, this.2.2.1⟩
theorem run_ok (S : List (Bool × Nat)) : ∀ lo hi, lo < hi → hi < 4294967296 → Good S → (run lo hi S).2.1 < (run lo hi S).2.2 ∧ (run lo hi S).2.2 < 4294967296 ∧ (run lo hi S).1.length ≤ 4 * S.length := by
  induction S with
  | nil => intro lo hi h hh _; exact ⟨h, hh, by simp [run]⟩
  | cons x r ih =>
    intro lo hi h hh hg
    have hf := enc_facts' x.1 h hh (hg x (by simp))
    have := ih _ _ hf.2.1 hf.2.2 (fun z hz => hg z (by simp [hz]))
    refine ⟨this.1, this.2.1, ?_⟩
    have h4 := hf.1
    simp only [run, List.length_append, List.length_cons]
    omega

/-- The four bytes of a number, the highest first. -/
def be32 (x : Nat) : List UInt8 := [UInt8.ofNat (x / 16777216), UInt8.ofNat (x / 65536), UInt8.ofNat (x / 256), UInt8.ofNat x]
theorem num_be32 {x : Nat} (h : x < 4294967296) : num (be32 x) = x := by
  simp only [num, be32, List.foldl_cons, List.foldl_nil, UInt8.toNat_ofNat']
  omega

/-- The number in the first four bytes. -/
def win (s : List UInt8) : Nat := num (s.take 4)
theorem win_cons {t : UInt8} {s : List UInt8} (h : 4 ≤ s.length) : win (t :: s) = t.toNat * 16777216 + win s / 256 := by
  match s, h with
  | a :: b :: c :: d :: r, _ =>
    have hd := d.toNat_lt
    simp only [win, List.take_succ_cons, List.take_zero, num, List.foldl_cons, List.foldl_nil]
    omega
theorem win_tail {s : List UInt8} {c : UInt8} (h : s[4]? = some c) : win s.tail = win s * 256 % 4294967296 + c.toNat := by
  match s, h with
  | a :: b :: c' :: d :: e :: r, h =>
    simp at h
    subst h
    have ha := a.toNat_lt
    have hb := b.toNat_lt
    have hc := c'.toNat_lt
    have hd := d.toNat_lt
    have he := e.toNat_lt
    simp only [win, List.tail_cons, List.take_succ_cons, List.take_zero, num, List.foldl_cons, List.foldl_nil]
    omega
theorem win_lt (s : List UInt8) : win s < 4294967296 := by
  refine Nat.lt_of_lt_of_le (num_lt _) ?_
  have h1 : (s.take 4).length ≤ 4 := by rw [List.length_take]; omega
  exact Nat.le_trans (Nat.pow_le_pow_right (by decide) h1) (by decide)

theorem norm_win (f : Nat) : ∀ (lo hi : Nat) (T : List UInt8), lo ≤ hi → hi < 4294967296 → 4 ≤ T.length → (norm f lo hi).2.1 ≤ win T → win T ≤ (norm f lo hi).2.2 → lo ≤ win ((norm f lo hi).1 ++ T) ∧ win ((norm f lo hi).1 ++ T) ≤ hi := by
  induction f with
  | zero => intro lo hi T _ _ _ h1 h2; exact ⟨h1, h2⟩
  | succ f ih =>
    intro lo hi T hl hh hT h1 h2
    by_cases h : top hi = top lo
    · rw [norm_go h] at h1 h2 ⊢
      have hs := step_le hl h
      have := ih _ _ T hs.1 hs.2 hT h1 h2
      rw [List.cons_append, win_cons (by rw [List.length_append]; omega), byteOf_toNat hh]
      generalize win ((norm f (stepLo lo) (stepHi hi)).1 ++ T) = W at this ⊢
      have a1 : lo * 256 % 4294967296 ≤ stepLo lo := by unfold stepLo; split <;> omega
      have b1 : stepHi hi = hi * 256 % 4294967296 + 255 := rfl
      unfold top at h ⊢
      omega
    · rw [norm_stop h] at h1 h2 ⊢
      exact ⟨h1, h2⟩

/-- What is left to read at a state, with a script still to come. -/
def left (lo hi : Nat) (r : List (Bool × Nat)) : List UInt8 := (run lo hi r).1 ++ be32 (run lo hi r).2.1
theorem left_len (lo hi : Nat) (r : List (Bool × Nat)) : (left lo hi r).length = (run lo hi r).1.length + 4 := by simp [left, be32]
theorem left_nil (lo hi : Nat) : left lo hi [] = be32 lo := by simp [left, run]
theorem left_cons (lo hi : Nat) (x : Bool × Nat) (r : List (Bool × Nat)) : left lo hi (x :: r) = (enc lo hi x.2 x.1).1 ++ left (enc lo hi x.2 x.1).2.1 (enc lo hi x.2 x.1).2.2 r := by simp [left, run]

theorem left_win (r : List (Bool × Nat)) : ∀ lo hi, lo < hi → hi < 4294967296 → Good r → lo ≤ win (left lo hi r) ∧ win (left lo hi r) ≤ hi := by
  induction r with
  | nil =>
    intro lo hi h hh _
    rw [left_nil]
    have : win (be32 lo) = lo := by
      have := num_be32 (x := lo) (by omega)
      exact this
    omega
  | cons x r ih =>
    intro lo hi h hh hg
    have hp := hg x (by simp)
    have hf := enc_facts' x.1 h hh hp
    have hn := narrow x.1 h hp
    have := ih _ _ hf.2.1 hf.2.2 (fun z hz => hg z (by simp [hz]))
    rw [left_cons]
    have hw := norm_win 4 _ _ _ hn.2.1 (by omega) (by rw [left_len]; omega) this.1 this.2
    exact ⟨Nat.le_trans hn.1 hw.1, Nat.le_trans hw.2 hn.2.2⟩

/-- .. and the next bit is told by the middle. -/
theorem left_bit (x : Bool × Nat) (r : List (Bool × Nat)) (lo hi : Nat) (h : lo < hi) (hh : hi < 4294967296) (hg : Good (x :: r)) : (win (left lo hi (x :: r)) ≤ mid lo hi x.2) = (x.1 = true) := by
  have hp := hg x (by simp)
  have hf := enc_facts' x.1 h hh hp
  have hn := narrow x.1 h hp
  have := left_win r _ _ hf.2.1 hf.2.2 (fun z hz => hg z (by simp [hz]))
  have hw : lo1 lo hi x.2 x.1 ≤ win (left lo hi (x :: r)) ∧ win (left lo hi (x :: r)) ≤ hi1 lo hi x.2 x.1 := by
    rw [left_cons]
    exact norm_win 4 _ _ _ hn.2.1 (by omega) (by rw [left_len]; omega) this.1 this.2
  generalize win (left lo hi (x :: r)) = W at hw ⊢
  unfold lo1 hi1 at hw
  cases hx : x.1 <;> simp [hx] at hw ⊢ <;> omega

/-- The whole stream, cut at a step of the script. -/
theorem left_drop (S : List (Bool × Nat)) (lo hi i : Nat) : (left lo hi S).drop (run lo hi (S.take i)).1.length = left (run lo hi (S.take i)).2.1 (run lo hi (S.take i)).2.2 (S.drop i) := by
  have e := run_append (S.take i) (S.drop i) lo hi
  rw [List.take_append_drop] at e
  unfold left
  rw [e]
  simp
theorem left_split (S : List (Bool × Nat)) (lo hi i : Nat) : left lo hi S = (run lo hi (S.take i)).1 ++ left (run lo hi (S.take i)).2.1 (run lo hi (S.take i)).2.2 (S.drop i) := by
  have e := run_append (S.take i) (S.drop i) lo hi
  rw [List.take_append_drop] at e
  unfold left
  rw [e]
  simp
theorem run_take_succ (S : List (Bool × Nat)) (lo hi i : Nat) (x : Bool × Nat) (h : S[i]? = some x) :
    run lo hi (S.take (i + 1)) = ((run lo hi (S.take i)).1 ++ (enc (run lo hi (S.take i)).2.1 (run lo hi (S.take i)).2.2 x.2 x.1).1, (enc (run lo hi (S.take i)).2.1 (run lo hi (S.take i)).2.2 x.2 x.1).2) := by
  rw [List.take_add_one, h]
  exact run_snoc _ _ _ _
end Go.Proofs.Qxb6602245a.Coder

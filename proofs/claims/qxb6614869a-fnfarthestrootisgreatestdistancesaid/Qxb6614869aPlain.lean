/-
  The plain law: a borrow that runs from the last byte to the first tells which of two rows of bytes is the greater; and so does the first place where they differ. No Go in sight.
-/
namespace Go.Proofs.Qxb6614869a

/-- The borrow behind the bytes n - d .. n - 1 of b - a (d of them, from the last on). -/
def bor (a b : Nat → Int) (n : Nat) : Nat → Int
  | 0 => 0
  | d + 1 => if b (n - (d + 1)) - a (n - (d + 1)) - bor a b n d < 0 then 1 else 0

theorem bor_01 (a b : Nat → Int) (n d : Nat) : bor a b n d = 0 ∨ bor a b n d = 1 := by
  cases d with
  | zero => exact .inl rfl
  | succ d => unfold bor; split <;> simp

/-- a is the greater, seen from place k on: at the first place from k on where they differ a's byte is the greater. -/
def gtFrom (a b : Nat → Int) (n k : Nat) : Prop := ∃ i, k ≤ i ∧ i < n ∧ b i < a i ∧ ∀ j, k ≤ j → j < i → a j = b j

theorem gtFrom_step (a b : Nat → Int) (n k : Nat) (hk : k < n) : gtFrom a b n k ↔ b k < a k ∨ (a k = b k ∧ gtFrom a b n (k + 1)) := by
  constructor
  · rintro ⟨i, h1, h2, h3, h4⟩
    by_cases e : i = k
    · subst e; exact .inl h3
    · exact .inr ⟨h4 k (Nat.le_refl _) (by omega), i, by omega, h2, h3, fun j hj hj' => h4 j (by omega) hj'⟩
  · rintro (h | ⟨h, i, h1, h2, h3, h4⟩)
    · exact ⟨k, Nat.le_refl _, hk, h, fun j hj hj' => by omega⟩
    · refine ⟨i, by omega, h2, h3, fun j hj hj' => ?_⟩
      by_cases e : j = k
      · subst e; exact h
      · exact h4 j (by omega) hj'

theorem bor_gt (a b : Nat → Int) (n : Nat) : ∀ d, d ≤ n → (bor a b n d = 1 ↔ gtFrom a b n (n - d)) := by
  intro d
  induction d with
  | zero =>
    intro _
    refine ⟨fun h => by simp [bor] at h, fun ⟨i, h1, h2, _⟩ => by omega⟩
  | succ d ih =>
    intro hd
    have ih := ih (by omega)
    have h01 := bor_01 a b n d
    obtain ⟨k, hk⟩ : ∃ k, n - (d + 1) = k := ⟨_, rfl⟩
    have e : bor a b n (d + 1) = if b k - a k - bor a b n d < 0 then 1 else 0 := by rw [← hk]; rfl
    have hk1 : n - d = k + 1 := by omega
    rw [hk1] at ih
    rw [hk, e, gtFrom_step a b n k (by omega), ← ih]
    split
    · rename_i hlt
      refine ⟨fun _ => ?_, fun _ => rfl⟩
      rcases h01 with h | h
      · left; omega
      · by_cases h' : b k < a k
        · exact .inl h'
        · exact .inr ⟨by omega, h⟩
    · rename_i hge
      refine ⟨fun h => by omega, ?_⟩
      rintro (h | ⟨h, h'⟩) <;> omega

/-- The whole rows. -/
def gt (a b : Nat → Int) (n : Nat) : Bool := bor a b n n == 1

theorem gt_iff (a b : Nat → Int) (n : Nat) : gt a b n = true ↔ gtFrom a b n 0 := by
  unfold gt
  rw [beq_iff_eq, bor_gt a b n n (Nat.le_refl _), Nat.sub_self]

theorem gt_irrefl (a b : Nat → Int) (n : Nat) (h : ∀ i, i < n → a i = b i) : gt a b n = false := by
  cases e : gt a b n with
  | false => rfl
  | true =>
    obtain ⟨i, _, h2, h3, _⟩ := (gt_iff a b n).1 e
    have := h i h2; omega

theorem gt_asymm (a b : Nat → Int) (n : Nat) (h : gt a b n = true) : gt b a n = false := by
  cases e : gt b a n with
  | false => rfl
  | true =>
    obtain ⟨i, _, i2, i3, i4⟩ := (gt_iff a b n).1 h
    obtain ⟨j, _, j2, j3, j4⟩ := (gt_iff b a n).1 e
    rcases Nat.lt_trichotomy i j with hij | hij | hij
    · have := j4 i (Nat.zero_le _) hij; omega
    · subst hij; omega
    · have := i4 j (Nat.zero_le _) hij; omega

theorem gt_total (a b : Nat → Int) (n : Nat) (h : ∃ i, i < n ∧ a i ≠ b i) : gt a b n = true ∨ gt b a n = true := by
  have key : ∀ m, m ≤ n → (∀ j, j < m → a j = b j) ∨ gt a b n = true ∨ gt b a n = true := by
    intro m
    induction m with
    | zero => intro _; exact .inl fun j hj => by omega
    | succ m ih =>
      intro hm
      rcases ih (by omega) with hall | h' | h'
      · by_cases e : a m = b m
        · refine .inl fun j hj => ?_
          by_cases e' : j = m
          · subst e'; exact e
          · exact hall j (by omega)
        · by_cases hlt : b m < a m
          · exact .inr (.inl ((gt_iff a b n).2 ⟨m, Nat.zero_le _, by omega, hlt, fun j _ hj => hall j hj⟩))
          · exact .inr (.inr ((gt_iff b a n).2 ⟨m, Nat.zero_le _, by omega, by omega, fun j _ hj => (hall j hj).symm⟩))
      · exact .inr (.inl h')
      · exact .inr (.inr h')
  rcases key n (Nat.le_refl _) with hall | h' | h'
  · obtain ⟨i, hi, hne⟩ := h; exact absurd (hall i hi) hne
  · exact .inl h'
  · exact .inr h'

/-- Not greater, and not greater the other way: the transitivity that the search for the greatest wants. -/
theorem gt_trans_not (a b c : Nat → Int) (n : Nat) (h1 : gt a b n = true) (h2 : gt c b n = false) : gt c a n = false := by
  cases e : gt c a n with
  | false => rfl
  | true =>
    exfalso
    have h3 : gt c b n = true := by
      obtain ⟨i, _, i2, i3, i4⟩ := (gt_iff a b n).1 h1
      obtain ⟨j, _, j2, j3, j4⟩ := (gt_iff c a n).1 e
      refine (gt_iff c b n).2 ?_
      rcases Nat.lt_trichotomy i j with hij | hij | hij
      · refine ⟨i, Nat.zero_le _, i2, by have := j4 i (Nat.zero_le _) hij; omega, fun q _ hq => ?_⟩
        rw [j4 q (Nat.zero_le _) (by omega), i4 q (Nat.zero_le _) hq]
      · subst hij
        refine ⟨i, Nat.zero_le _, i2, by omega, fun q _ hq => ?_⟩
        rw [j4 q (Nat.zero_le _) hq, i4 q (Nat.zero_le _) hq]
      · refine ⟨j, Nat.zero_le _, j2, by have := i4 j (Nat.zero_le _) hij; omega, fun q _ hq => ?_⟩
        rw [j4 q (Nat.zero_le _) hq, i4 q (Nat.zero_le _) (by omega)]
    rw [h3] at h2
    cases h2

end Go.Proofs.Qxb6614869a

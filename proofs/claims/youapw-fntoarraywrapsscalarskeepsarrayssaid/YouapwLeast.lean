/-
  THE SEAT ouap. Plain: the least index below n at which p says yes. No Go here.
-/
namespace Go.Proofs.Youapw

def least (p : Nat → Bool) : Nat → Option Nat
  | 0 => none
  | n + 1 => match least p n with
    | some i => some i
    | none => if p n then some n else none

theorem least_none {p : Nat → Bool} : ∀ {n : Nat}, (least p n = none ↔ ∀ j, j < n → p j = false)
  | 0 => by simp [least]
  | n + 1 => by
    have ih := least_none (p := p) (n := n)
    constructor
    · intro h j hj
      have hn : least p n = none := by
        cases e : least p n with
        | none => rfl
        | some i => simp [least, e] at h
      by_cases hjn : j = n
      · subst hjn
        simpa [least, hn] using h
      · exact ih.1 hn j (by omega)
    · intro h
      have hn : least p n = none := ih.2 fun j hj => h j (by omega)
      simp [least, hn, h n (by omega)]

theorem least_some {p : Nat → Bool} {i : Nat} : ∀ {n : Nat}, i < n → p i = true → (∀ j, j < i → p j = false) → least p n = some i
  | 0, h, _, _ => by omega
  | n + 1, h, hp, hj => by
    by_cases e : i = n
    · subst e
      have hn : least p i = none := least_none.2 hj
      simp [least, hn, hp]
    · have ih := least_some (p := p) (i := i) (n := n) (by omega) hp hj
      simp [least, ih]

theorem least_some_inv {p : Nat → Bool} {i : Nat} : ∀ {n : Nat}, least p n = some i → i < n ∧ p i = true ∧ ∀ j, j < i → p j = false
  | 0, h => by simp [least] at h
  | n + 1, h => by
    cases e : least p n with
    | some k =>
      have h' : k = i := by simpa [least, e] using h
      subst h'
      obtain ⟨h1, h2, h3⟩ := least_some_inv e
      exact ⟨by omega, h2, h3⟩
    | none =>
      cases hp : p n with
      | false => simp [least, e, hp] at h
      | true =>
        have h' : n = i := by simpa [least, e, hp] using h
        subst h'
        exact ⟨by omega, hp, least_none.1 e⟩

theorem least_congr {p q : Nat → Bool} {n : Nat} (h : ∀ j, j < n → p j = q j) : least p n = least q n := by
  cases e : least q n with
  | none => exact least_none.2 fun j hj => by rw [h j hj]; exact least_none.1 e j hj
  | some i =>
    obtain ⟨h1, h2, h3⟩ := least_some_inv e
    exact least_some h1 (by rw [h i h1]; exact h2) fun j hj => by rw [h j (by omega)]; exact h3 j hj

/-- k times no ahead shifts the least index by k. -/
theorem least_shift {p q : Nat → Bool} {k n : Nat} (h0 : ∀ j, j < k → q j = false) (h1 : ∀ j, j < n → q (k + j) = p j) : least q (k + n) = (least p n).map (k + ·) := by
  cases e : least p n with
  | none =>
    refine least_none.2 fun j hj => ?_
    by_cases hk : j < k
    · exact h0 j hk
    · have := h1 (j - k) (by omega)
      rw [show k + (j - k) = j by omega] at this
      rw [this]
      exact least_none.1 e _ (by omega)
  | some i =>
    obtain ⟨a, b, c⟩ := least_some_inv e
    show least q (k + n) = some (k + i)
    refine least_some (by omega) (by rw [h1 i a]; exact b) fun j hj => ?_
    by_cases hk : j < k
    · exact h0 j hk
    · have := h1 (j - k) (by omega)
      rw [show k + (j - k) = j by omega] at this
      rw [this]
      exact c _ (by omega)

/-- The law's own search, from the right: after d rounds, over the last d of n. -/
def wantD (p : Nat → Bool) (n : Nat) : Nat → Int
  | 0 => -1
  | d + 1 => if p (n - 1 - d) then ((n - 1 - d : Nat) : Int) else wantD p n d

theorem wantD_spec (p : Nat → Bool) (n : Nat) : ∀ d, d ≤ n → (wantD p n d = -1 ∧ ∀ j, n - d ≤ j → j < n → p j = false) ∨ (∃ i : Nat, wantD p n d = (i : Int) ∧ n - d ≤ i ∧ i < n ∧ p i = true ∧ ∀ j, n - d ≤ j → j < i → p j = false)
  | 0, _ => Or.inl ⟨rfl, fun j h1 h2 => by omega⟩
  | d + 1, hd => by
    cases hp : p (n - 1 - d) with
    | true =>
      refine Or.inr ⟨n - 1 - d, by rw [wantD, if_pos hp], by omega, by omega, hp, fun j h1 h2 => by omega⟩
    | false =>
      have e : wantD p n (d + 1) = wantD p n d := by simp [wantD, hp]
      rw [e]
      rcases wantD_spec p n d (by omega) with ⟨h1, h2⟩ | ⟨i, h1, h2, h3, h4, h5⟩
      · refine Or.inl ⟨h1, fun j a b => ?_⟩
        by_cases hj : j = n - 1 - d
        · rw [hj]; exact hp
        · exact h2 j (by omega) b
      · refine Or.inr ⟨i, h1, by omega, h3, h4, fun j a b => ?_⟩
        by_cases hj : j = n - 1 - d
        · rw [hj]; exact hp
        · exact h5 j (by omega) b

theorem wantD_none {p : Nat → Bool} {n : Nat} (h : least p n = none) : wantD p n n = -1 := by
  rcases wantD_spec p n n (Nat.le_refl _) with ⟨h1, _⟩ | ⟨i, _, _, h3, h4, _⟩
  · exact h1
  · rw [least_none.1 h i h3] at h4
    cases h4

theorem wantD_some {p : Nat → Bool} {n i : Nat} (h : least p n = some i) : wantD p n n = (i : Int) := by
  obtain ⟨a, b, c⟩ := least_some_inv h
  rcases wantD_spec p n n (Nat.le_refl _) with ⟨_, h2⟩ | ⟨k, h1, h2, h3, h4, h5⟩
  · rw [h2 i (by omega) a] at b
    cases b
  · have e : k = i := by
      rcases Nat.lt_trichotomy k i with q | q | q
      · rw [c k q] at h4; cases h4
      · exact q
      · rw [h5 i (by omega) q] at b; cases b
    rw [h1, e]

theorem wantD_step {p : Nat → Bool} {n k : Nat} (hk : k < n) : wantD p n (n - k) = if p k then (k : Int) else wantD p n (n - (k + 1)) := by
  have e : n - k = (n - (k + 1)) + 1 := by omega
  rw [e]
  show (if p (n - 1 - (n - (k + 1))) then ((n - 1 - (n - (k + 1)) : Nat) : Int) else wantD p n (n - (k + 1))) = _
  rw [show n - 1 - (n - (k + 1)) = k by omega]

end Go.Proofs.Youapw

/-
  The plain side of waitOn: what becomes of a list of waiters. No Go in sight.
-/
namespace Go.Proofs.Ybulkcfno

/-- One more wait of E: counted at the last waiter if that is E, else E is put behind. -/
def bump (E : Nat) (l : List (Nat × Int)) : List (Nat × Int) :=
  match l.getLast? with
  | some p => if p.1 = E then l.dropLast ++ [(E, p.2 + 1)] else l ++ [(E, 1)]
  | none => [(E, 1)]

theorem bump_nil (E : Nat) : bump E [] = [(E, 1)] := rfl
theorem bump_hit (E : Nat) (a : List (Nat × Int)) (k : Int) : bump E (a ++ [(E, k)]) = a ++ [(E, k + 1)] := by
  simp [bump]
theorem bump_miss (E : Nat) (a : List (Nat × Int)) (b : Nat) (k : Int) (h : b ≠ E) : bump E (a ++ [(b, k)]) = a ++ [(b, k)] ++ [(E, 1)] := by
  simp [bump, h]

/-- A list is empty or has a last element. -/
theorem snoc_cases (l : List (Nat × Int)) : l = [] ∨ ∃ a b k, l = a ++ [(b, k)] := by
  rcases List.eq_nil_or_concat l with h | ⟨a, p, h⟩
  · exact .inl h
  · exact .inr ⟨a, p.1, p.2, by simp [h]⟩

theorem bump_len (E : Nat) (l : List (Nat × Int)) : (bump E l).length ≤ l.length + 1 := by
  rcases snoc_cases l with rfl | ⟨a, b, k, rfl⟩
  · simp [bump_nil]
  · by_cases h : b = E
    · subst h; rw [bump_hit]; simp
    · rw [bump_miss E a b k h]; simp

theorem bump_cnt (E : Nat) (l : List (Nat × Int)) (K : Int) (hK : 0 ≤ K) (h : ∀ p ∈ l, 0 ≤ p.2 ∧ p.2 ≤ K) : ∀ p ∈ bump E l, 0 ≤ p.2 ∧ p.2 ≤ K + 1 := by
  intro p hp
  rcases snoc_cases l with rfl | ⟨a, b, k, rfl⟩
  · simp [bump_nil] at hp; subst hp; simp; omega
  · by_cases hb : b = E
    · subst hb
      rw [bump_hit] at hp
      simp at hp
      rcases hp with hp | hp
      · have := h p (by simp [hp]); omega
      · subst hp
        have := h (b, k) (by simp)
        simp at this ⊢
        omega
    · rw [bump_miss E a b k hb] at hp
      simp at hp
      rcases hp with hp | hp | hp
      · have := h p (by simp [hp]); omega
      · subst hp
        have := h (b, k) (by simp)
        simp at this ⊢
        omega
      · subst hp; simp; omega

theorem bump_ents (E : Nat) (l : List (Nat × Int)) : ∀ p ∈ bump E l, p.1 = E ∨ ∃ q ∈ l, q.1 = p.1 := by
  intro p hp
  rcases snoc_cases l with rfl | ⟨a, b, k, rfl⟩
  · simp [bump_nil] at hp; subst hp; simp
  · by_cases hb : b = E
    · subst hb
      rw [bump_hit] at hp
      simp at hp
      rcases hp with hp | hp
      · exact .inr ⟨p, by simp [hp], rfl⟩
      · subst hp; simp
    · rw [bump_miss E a b k hb] at hp
      simp at hp
      rcases hp with hp | hp | hp
      · exact .inr ⟨p, by simp [hp], rfl⟩
      · subst hp; exact .inr ⟨(b, k), by simp, rfl⟩
      · subst hp; simp

/-- The waiters of every chain behind the first k ids, the j-th of which lies on chain 'c j'. -/
def WsAt (E : Nat) (c : Nat → Nat) (Ws : Nat → List (Nat × Int)) : Nat → Nat → List (Nat × Int)
  | 0, i => Ws i
  | k + 1, i => if i = c k then bump E (WsAt E c Ws k i) else WsAt E c Ws k i

theorem WsAt_len {E : Nat} {c : Nat → Nat} {Ws : Nat → List (Nat × Int)} {i M : Nat} (h : (Ws i).length ≤ M) : ∀ k : Nat, (WsAt E c Ws k i).length ≤ M + k
  | 0 => h
  | k + 1 => by
    have := WsAt_len (E := E) (c := c) h k
    simp only [WsAt]
    split
    · have := bump_len E (WsAt E c Ws k i); omega
    · omega

theorem WsAt_cnt {E : Nat} {c : Nat → Nat} {Ws : Nat → List (Nat × Int)} {i : Nat} {K : Int} (hK : 0 ≤ K) (h : ∀ p ∈ Ws i, 0 ≤ p.2 ∧ p.2 ≤ K) : ∀ k : Nat, ∀ p ∈ WsAt E c Ws k i, 0 ≤ p.2 ∧ p.2 ≤ K + k
  | 0 => by simpa [WsAt] using h
  | k + 1 => by
    have ih := WsAt_cnt (E := E) (c := c) hK h k
    intro p hp
    simp only [WsAt] at hp
    split at hp
    · have := bump_cnt E _ (K + k) (by omega) ih p hp
      omega
    · have := ih p hp
      omega

/-- How many of the first m ids lie on chain i. -/
def cntC (c : Nat → Nat) : Nat → Nat → Nat
  | 0, _ => 0
  | k + 1, i => if i = c k then cntC c k i + 1 else cntC c k i

theorem cntC_le (c : Nat → Nat) (i : Nat) : ∀ k, cntC c k i ≤ k
  | 0 => Nat.le_refl _
  | k + 1 => by
    have := cntC_le c i k
    simp only [cntC]
    split <;> omega

/-- What the law asks of a chain's waiters. -/
def Told (E : Nat) (old got : List (Nat × Int)) (t : Nat) : Prop :=
  (t = 0 ∧ got = old) ∨
  (0 < t ∧ ∃ (a : List (Nat × Int)) (k : Int), old = a ++ [(E, k)] ∧ got = a ++ [(E, k + (t : Int))]) ∨
  (0 < t ∧ (old = [] ∨ ∃ (a : List (Nat × Int)) (b : Nat) (k : Int), old = a ++ [(b, k)] ∧ b ≠ E) ∧ got = old ++ [(E, (t : Int))])

theorem told_bump {E : Nat} {old got : List (Nat × Int)} {t : Nat} (h : Told E old got t) : Told E old (bump E got) (t + 1) := by
  rcases h with ⟨rfl, rfl⟩ | ⟨ht, a, k, rfl, rfl⟩ | ⟨ht, ho, rfl⟩
  · rcases snoc_cases got with rfl | ⟨a, b, k, rfl⟩
    · right; right; exact ⟨by omega, .inl rfl, by simp [bump_nil]⟩
    · by_cases hb : b = E
      · subst hb
        right; left
        exact ⟨by omega, a, k, rfl, by rw [bump_hit]; simp⟩
      · right; right
        exact ⟨by omega, .inr ⟨a, b, k, rfl, hb⟩, by rw [bump_miss E a b k hb]; simp⟩
  · right; left
    exact ⟨by omega, a, k, rfl, by rw [bump_hit]; simp; omega⟩
  · right; right
    exact ⟨by omega, ho, by rw [bump_hit]; simp⟩

theorem told_all (E : Nat) (c : Nat → Nat) (Ws : Nat → List (Nat × Int)) (i : Nat) : ∀ k, Told E (Ws i) (WsAt E c Ws k i) (cntC c k i)
  | 0 => Or.inl ⟨rfl, rfl⟩
  | k + 1 => by
    have ih := told_all E c Ws i k
    simp only [WsAt, cntC]
    split
    · exact told_bump ih
    · exact ih
end Go.Proofs.Ybulkcfno

/-
  THE PLAIN LAW: a sift-down makes a min-heap; in a min-heap the root is least, and of the others one of the root's two children is. No Go in sight. An array is told by a function 'z : Nat → Int' and its length n.
-/
namespace Go.Proofs.Ybulkdide.Heapy

/-- c is a child of p. -/
def Kid (p c : Nat) : Prop := c = 2 * p + 1 ∨ c = 2 * p + 1 + 1

/-- From place s on, each parent is at most its children. -/
def From (z : Nat → Int) (n s : Nat) : Prop := ∀ p c, s ≤ p → Kid p c → c < n → z p ≤ z c

/-- The state of the sift from s, the hole at i. -/
def Sift (z : Nat → Int) (n s i : Nat) : Prop :=
  s ≤ i ∧ (∀ p c, s ≤ p → p ≠ i → Kid p c → c < n → z p ≤ z c) ∧ (∀ p c, s ≤ p → Kid p i → Kid i c → c < n → z p ≤ z c)

/-- The two places i and m have changed what they hold. -/
def swap (z : Nat → Int) (i m : Nat) : Nat → Int := fun k => if k = m then z i else if k = i then z m else z k

theorem from_half (z : Nat → Int) (n s : Nat) (h : n ≤ 2 * s + 1) : From z n s := by
  intro p c hp hk hc
  unfold Kid at hk
  omega

theorem sift_start {z : Nat → Int} {n s : Nat} (h : From z n (s + 1)) : Sift z n s s := by
  refine ⟨Nat.le_refl _, ?_, ?_⟩
  · intro p c hp hne hk hc
    exact h p c (by omega) hk hc
  · intro p c hp hk
    unfold Kid at hk
    omega

theorem sift_leaf {z : Nat → Int} {n s i : Nat} (h : Sift z n s i) (hl : n ≤ 2 * i + 1) : From z n s := by
  intro p c hp hk hc
  by_cases e : p = i
  · unfold Kid at hk; omega
  · exact h.2.1 p c hp e hk hc

theorem sift_done {z : Nat → Int} {n s i m : Nat} (h : Sift z n s i) (hle : z i ≤ z m) (hmin : ∀ c, Kid i c → c < n → z m ≤ z c) : From z n s := by
  intro p c hp hk hc
  by_cases e : p = i
  · subst e; have := hmin c hk hc; omega
  · exact h.2.1 p c hp e hk hc

theorem sift_step {z : Nat → Int} {n s i m : Nat} (h : Sift z n s i) (hm : Kid i m) (hmn : m < n) (hgt : z m < z i) (hmin : ∀ c, Kid i c → c < n → z m ≤ z c) : Sift (swap z i m) n s m := by
  obtain ⟨hsi, h1, h2⟩ := h
  have him : i < m := by unfold Kid at hm; omega
  refine ⟨by omega, ?_, ?_⟩
  · intro p c hp hne hk hc
    by_cases epi : p = i
    · subst epi
      by_cases ecm : c = m
      · subst ecm; simp [swap]; rw [if_neg (by omega)]; omega
      · have hci : c ≠ p := by unfold Kid at hk; omega
        have := hmin c hk hc
        simp [swap, ecm, hci]; rw [if_neg (by omega)]; exact this
    · by_cases eci : c = i
      · subst eci
        have := h2 p m hp hk hm hmn
        simp [swap, epi, hne]; rw [if_neg (by omega)]; exact this
      · have ecm : c ≠ m := by
          intro e; subst e; unfold Kid at hk hm; omega
        have := h1 p c hp epi hk hc
        simp [swap, epi, hne, ecm, eci]; exact this
  · intro p c hp hk hk2 hc
    have epi : p = i := by unfold Kid at hk hm; omega
    subst epi
    have hcm : c ≠ m := by unfold Kid at hk2; omega
    have hci : c ≠ p := by unfold Kid at hk2; omega
    have := h1 m c (by omega) (by omega) hk2 hc
    simp [swap, hcm, hci]; rw [if_neg (by omega)]; exact this

/-- The root is least. -/
theorem root_least {z : Nat → Int} {n : Nat} (h : From z n 0) : ∀ j, j < n → z 0 ≤ z j := by
  intro j
  induction j using Nat.strongRecOn with
  | _ j ih =>
    intro hj
    by_cases e : j = 0
    · subst e; exact Int.le_refl _
    · have h1 := ih ((j - 1) / 2) (by omega) (by omega)
      have h2 := h ((j - 1) / 2) j (Nat.zero_le _) (by unfold Kid; omega) hj
      omega

/-- Of the others, one of the root's children is. -/
theorem second_least {z : Nat → Int} {n : Nat} (h : From z n 0) : ∀ j, 1 ≤ j → j < n → z 1 ≤ z j ∨ (2 < n ∧ z 2 ≤ z j) := by
  intro j
  induction j using Nat.strongRecOn with
  | _ j ih =>
    intro h1 hj
    by_cases e1 : j = 1
    · subst e1; exact .inl (Int.le_refl _)
    · by_cases e2 : j = 2
      · subst e2; exact .inr ⟨hj, Int.le_refl _⟩
      · have g1 := ih ((j - 1) / 2) (by omega) (by omega) (by omega)
        have g2 := h ((j - 1) / 2) j (Nat.zero_le _) (by unfold Kid; omega) hj
        omega

end Go.Proofs.Ybulkdide.Heapy

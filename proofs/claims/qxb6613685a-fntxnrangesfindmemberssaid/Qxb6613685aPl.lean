/-
  The plain laws: no Go in sight. 'cut his n t': how many of the first n end below t.
-/
namespace Go.Proofs.Qxb6613685a

/-- What the premise says of the numbers, as far as the laws need it. -/
def Ord (los his : Nat → Int) (n : Nat) : Prop := ∀ i, i < n → los i ≤ his i ∧ (0 < i → his (i - 1) < los i)

def cut (his : Nat → Int) : Nat → Int → Nat
  | 0, _ => 0
  | n + 1, t => cut his n t + if his n < t then 1 else 0

theorem cut_le (his : Nat → Int) (n : Nat) (t : Int) : cut his n t ≤ n := by
  induction n with
  | zero => exact Nat.le_refl _
  | succ n ih => simp only [cut]; split <;> omega

theorem Ord.lt {los his : Nat → Int} {n : Nat} (h : Ord los his n) {i j : Nat} (hij : i < j) (hj : j < n) : his i < los j := by
  induction j with
  | zero => omega
  | succ j ih =>
    have h1 := (h (j + 1) hj).2 (by omega)
    rw [Nat.add_sub_cancel] at h1
    by_cases e : i = j
    · subst e; exact h1
    · have h2 := ih (by omega) (by omega)
      have h3 := (h j (by omega)).1
      omega
theorem Ord.le {los his : Nat → Int} {n : Nat} (h : Ord los his n) {i j : Nat} (hij : i ≤ j) (hj : j < n) : his i ≤ his j := by
  by_cases e : i = j
  · subst e; exact Int.le_refl _
  · have h1 := h.lt (i := i) (j := j) (by omega) hj
    have h2 := (h j hj).1
    omega
theorem Ord.mono {los his : Nat → Int} {n m : Nat} (h : Ord los his n) (hm : m ≤ n) : Ord los his m := fun i hi => h i (by omega)

theorem cut_spec {los his : Nat → Int} {n : Nat} (h : Ord los his n) (t : Int) : (∀ j, j < cut his n t → his j < t) ∧ (∀ j, cut his n t ≤ j → j < n → t ≤ his j) := by
  induction n with
  | zero => exact ⟨fun j hj => absurd hj (Nat.not_lt_zero _), fun j _ hj => absurd hj (Nat.not_lt_zero _)⟩
  | succ n ih =>
    obtain ⟨h1, h2⟩ := ih (h.mono (Nat.le_succ _))
    have hle := cut_le his n t
    by_cases hc : his n < t
    · have e : cut his n t = n := Nat.le_antisymm hle (Nat.le_of_not_lt fun hlt => by
        have a := h2 _ (Nat.le_refl _) hlt
        have b := h.le (i := cut his n t) (j := n) (by omega) (by omega)
        omega)
      have e1 : cut his (n + 1) t = n + 1 := by simp only [cut]; rw [if_pos hc, e]
      rw [e1]
      refine ⟨fun j hj => ?_, fun j hj hj' => by omega⟩
      have b := h.le (i := j) (j := n) (by omega) (by omega)
      omega
    · have e1 : cut his (n + 1) t = cut his n t := by simp only [cut]; rw [if_neg hc]; omega
      rw [e1]
      refine ⟨h1, fun j hj hj' => ?_⟩
      by_cases e : j = n
      · subst e; omega
      · exact h2 j hj (by omega)

/-- There is one such place. -/
theorem cut_unique {los his : Nat → Int} {n : Nat} (h : Ord los his n) {t : Int} {i : Nat} (hi : i ≤ n) (h1 : ∀ j, j < i → his j < t) (h2 : ∀ j, i ≤ j → j < n → t ≤ his j) : cut his n t = i := by
  obtain ⟨c1, c2⟩ := cut_spec h t
  have hle := cut_le his n t
  rcases Nat.lt_trichotomy (cut his n t) i with e | e | e
  · have a := c2 _ (Nat.le_refl _) (by omega)
    have b := h1 _ e
    omega
  · exact e
  · have a := c1 _ e
    have b := h2 _ (Nat.le_refl _) (by omega)
    omega

theorem cut_succ {los his : Nat → Int} {n : Nat} (h : Ord los his n) (t : Int) : cut his n (t + 1) = cut his n t + if cut his n t < n ∧ his (cut his n t) = t then 1 else 0 := by
  obtain ⟨c1, c2⟩ := cut_spec h t
  have hle := cut_le his n t
  split
  · rename_i hc
    refine cut_unique h (by omega) (fun j hj => ?_) (fun j hj hj' => ?_)
    · by_cases e : j = cut his n t
      · rw [e, hc.2]; omega
      · have := c1 j (by omega); omega
    · have a := h.lt (i := cut his n t) (j := j) (by omega) hj'
      have b := (h j hj').1
      rw [hc.2] at a
      omega
  · rename_i hc
    refine cut_unique h (by omega) (fun j hj => ?_) (fun j hj hj' => ?_)
    · have := c1 j (by omega); omega
    · have a := c2 j (by omega) hj'
      by_cases e : j = cut his n t
      · have : his j ≠ t := fun e2 => hc ⟨by omega, by rw [← e]; exact e2⟩
        omega
      · have b := h.lt (i := cut his n t) (j := j) (by omega) hj'
        have c := c2 _ (Nat.le_refl _) (show cut his n t < n by omega)
        have d := (h j hj').1
        omega

theorem cut_lo {los his : Nat → Int} {n j : Nat} (h : Ord los his n) (hj : j < n) : (∀ i, i < j → his i < los j) ∧ (∀ i, j ≤ i → i < n → los j ≤ his i) :=
  ⟨fun i hi => h.lt hi hj, fun i hi hi' => by have a := h.le hi hi'; have b := (h j hj).1; omega⟩
theorem cut_hi {los his : Nat → Int} {n j : Nat} (h : Ord los his n) (hj : j < n) : (∀ i, i < j → his i < his j) ∧ (∀ i, j ≤ i → i < n → his j ≤ his i) :=
  ⟨fun i hi => by have a := h.lt hi hj; have b := (h j hj).1; omega, fun i hi hi' => h.le hi hi'⟩

/-- Is t in one of the first n ranges? -/
def mem (los his : Nat → Int) (t : Int) : Nat → Bool
  | 0 => false
  | n + 1 => if los n ≤ t ∧ t ≤ his n then true else mem los his t n

theorem mem_iff (los his : Nat → Int) (t : Int) (n : Nat) : mem los his t n = true ↔ ∃ j, j < n ∧ los j ≤ t ∧ t ≤ his j := by
  induction n with
  | zero => simp [mem]
  | succ n ih =>
    unfold mem
    split
    · rename_i h; exact ⟨fun _ => ⟨n, Nat.lt_succ_self _, h⟩, fun _ => rfl⟩
    · rename_i h
      rw [ih]
      constructor
      · rintro ⟨j, hj, hh⟩; exact ⟨j, by omega, hh⟩
      · rintro ⟨j, hj, hh⟩
        by_cases e : j = n
        · subst e; exact absurd hh h
        · exact ⟨j, by omega, hh⟩

theorem found_iff {los his : Nat → Int} {n : Nat} (h : Ord los his n) (t : Int) : mem los his t n = true ↔ (cut his n t < n ∧ los (cut his n t) ≤ t) := by
  obtain ⟨c1, c2⟩ := cut_spec h t
  rw [mem_iff]
  constructor
  · rintro ⟨j, hj, h1, h2⟩
    have a : cut his n t ≤ j := Nat.le_of_not_lt fun e => by have := c1 j e; omega
    have e : cut his n t = j := Nat.le_antisymm a (Nat.le_of_not_lt fun e => by
      have b := h.lt e hj
      have c := c2 _ (Nat.le_refl _) (by omega)
      omega)
    rw [e]
    exact ⟨hj, h1⟩
  · rintro ⟨h1, h2⟩
    exact ⟨_, h1, h2, c2 _ (Nat.le_refl _) h1⟩
end Go.Proofs.Qxb6613685a

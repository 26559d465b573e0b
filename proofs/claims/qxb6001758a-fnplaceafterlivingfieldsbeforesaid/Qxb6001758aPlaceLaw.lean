/- The plain law of place: no Go in sight. -/
import Derived.Test.Qxb6001758aPlain
namespace Go.Proofs.Qxb6001758a

/-- The names of those of the first k that p lets. -/
def Lv (N : Nat → ByteArray) (p : Nat → Bool) : Nat → List ByteArray
  | 0 => []
  | k + 1 => if p k then Lv N p k ++ [N k] else Lv N p k

theorem Lv_yes {N : Nat → ByteArray} {p : Nat → Bool} {k : Nat} (h : p k = true) : Lv N p (k + 1) = Lv N p k ++ [N k] := by simp [Lv, h]
theorem Lv_no {N : Nat → ByteArray} {p : Nat → Bool} {k : Nat} (h : p k = false) : Lv N p (k + 1) = Lv N p k := by simp [Lv, h]

theorem Lv_le (N : Nat → ByteArray) (p : Nat → Bool) (k : Nat) : (Lv N p k).length ≤ k := by
  induction k with
  | zero => simp [Lv]
  | succ k ih => 
    unfold Lv
    split
    · simp; omega
    · omega

theorem Lv_mono (N : Nat → ByteArray) (p : Nat → Bool) (k i : Nat) : (Lv N p k) <+: (Lv N p (k + i)) := by
  induction i with
  | zero => exact List.prefix_rfl
  | succ i ih =>
    refine ih.trans ?_
    show _ <+: (if p (k + i) then Lv N p (k + i) ++ [N (k + i)] else Lv N p (k + i))
    split
    · exact List.prefix_append _ _
    · exact List.prefix_rfl

theorem Lv_at (N : Nat → ByteArray) (p : Nat → Bool) (m i : Nat) (hi : i < m) (hp : p i = true) : (Lv N p i).length < (Lv N p m).length ∧ (Lv N p m).getD (Lv N p i).length ByteArray.empty = N i := by
  obtain ⟨t, ht⟩ := Lv_mono N p (i + 1) (m - (i + 1))
  rw [show i + 1 + (m - (i + 1)) = m by omega, Lv_yes hp] at ht
  rw [← ht]
  simp [List.getD]

theorem Lv_still (N : Nat → ByteArray) (p : Nat → Bool) (a b : Nat) (hab : a ≤ b) (h : ∀ i, a ≤ i → i < b → p i = false) : (Lv N p b) = (Lv N p a) := by
  obtain ⟨t, rfl⟩ : ∃ t, b = a + t := ⟨b - a, by omega⟩
  clear hab
  induction t with
  | zero => rfl
  | succ t ih =>
    rw [show a + (t + 1) = (a + t) + 1 by omega, Lv_no (h (a + t) (by omega) (by omega))]
    exact ih (fun i h1 h2 => h i h1 (by omega))

/-- The living fields other than j. -/
def livP (R : Nat → Bool) (j k : Nat) : Bool := !(k == j || R k)

theorem place_law (d : Bool) (N : Nat → ByteArray) (R : Nat → Bool) (m j : Nat) (x : Int) (hj : j < m)
    (pw : ∀ a b, a < b → b < (Lv N (livP R j) m).length → sameB d ((Lv N (livP R j) m).getD a ByteArray.empty) ((Lv N (livP R j) m).getD b ByteArray.empty) = false)
    (h : (∃ i k, j < i ∧ i < m ∧ R i = false ∧ x = (k : Nat) ∧ k < (Lv N (livP R j) m).length ∧ sameB d ((Lv N (livP R j) m).getD k ByteArray.empty) (N i) = true ∧ (∀ j', j' < k → sameB d ((Lv N (livP R j) m).getD j' ByteArray.empty) (N i) = false) ∧ ∀ i', j < i' → i' < i → R i' = true ∨ ∀ j', j' < (Lv N (livP R j) m).length → sameB d ((Lv N (livP R j) m).getD j' ByteArray.empty) (N i') = false)
     ∨ (x = ((Lv N (livP R j) m).length : Int) ∧ ∀ i', j < i' → i' < m → R i' = true ∨ ∀ j', j' < (Lv N (livP R j) m).length → sameB d ((Lv N (livP R j) m).getD j' ByteArray.empty) (N i') = false)) :
    x = ((Lv N (livP R j) j).length : Int) := by
  have skip : ∀ e, e ≤ m → (∀ i', j < i' → i' < e → R i' = true ∨ ∀ j', j' < (Lv N (livP R j) m).length → sameB d ((Lv N (livP R j) m).getD j' ByteArray.empty) (N i') = false) → ∀ i, j ≤ i → i < e → livP R j i = false := by
    intro e he hh i h1 h2
    by_cases ej : i = j
    · simp [livP, ej]
    · rcases hh i (by omega) h2 with hr | hn
      · simp [livP, hr]
      · cases hp : livP R j i with
        | false => rfl
        | true =>
          obtain ⟨g1, g2⟩ := Lv_at N (livP R j) m i (by omega) hp
          have := hn _ g1
          rw [g2, sameB_refl] at this
          cases this
  rcases h with ⟨i, k, h1, h2, hr, rfl, hk, hs, hmin, hpass⟩ | ⟨rfl, hpass⟩
  · have hp : livP R j i = true := by simp [livP, hr]; omega
    obtain ⟨g1, g2⟩ := Lv_at N (livP R j) m i h2 hp
    have est := Lv_still N (livP R j) j i (by omega) (skip i (by omega) hpass)
    rw [est] at g1 g2
    have le : k ≤ (Lv N (livP R j) j).length := by
      rcases Nat.lt_or_ge (Lv N (livP R j) j).length k with h | h
      · have := hmin _ h
        rw [g2, sameB_refl] at this
        cases this
      · exact h
    rcases Nat.lt_or_ge k (Lv N (livP R j) j).length with h | h
    · have := pw k _ h g1
      rw [g2, hs] at this
      cases this
    · have : k = (Lv N (livP R j) j).length := by omega
      omega
  · rw [Lv_still N (livP R j) j m (by omega) (skip m (Nat.le_refl _) hpass)]
end Go.Proofs.Qxb6001758a

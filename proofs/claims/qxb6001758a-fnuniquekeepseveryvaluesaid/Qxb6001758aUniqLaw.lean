/- The plain law of Unique: no Go in sight. -/
import Derived.Test.Qxb6001758aKeyPlain
namespace Go.Proofs.Qxb6001758a

section
variable (d : Bool) (N V : Nat → ByteArray)

/-- Is no name before i the same as name i? -/
def isFst (i : Nat) : Bool := (List.range i).all fun p => !sameB d (N p) (N i)

/-- The indices below k at which a name appears first. -/
def Fs : Nat → List Nat
  | 0 => []
  | k + 1 => if isFst d N k then Fs k ++ [k] else Fs k

/-- The last index below k whose name is the same as name i. -/
def lastB (i : Nat) : Nat → Nat
  | 0 => 0
  | k + 1 => if sameB d (N k) (N i) then k else lastB i k

/-- The unique fields of the first k. -/
def Pk (k : Nat) : List (ByteArray × ByteArray) := (Fs d N k).map fun x => (N x, V (lastB d N x k))
end

section
variable {d : Bool} {N V : Nat → ByteArray}

theorem sameB_trans {a b c : ByteArray} (h : sameB d a b = true) (h' : sameB d b c = true) : sameB d a c = true := by
  rw [keyL_same] at *
  exact h.trans h'
theorem sameB_sym {a b : ByteArray} (h : sameB d a b = true) : sameB d b a = true := by rw [sameB_symm]; exact h

theorem isFst_iff (i : Nat) : isFst d N i = true ↔ ∀ p, p < i → sameB d (N p) (N i) = false := by simp [isFst]

theorem Fs_yes {k : Nat} (h : isFst d N k = true) : Fs d N (k + 1) = Fs d N k ++ [k] := by simp [Fs, h]
theorem Fs_no {k : Nat} (h : isFst d N k = false) : Fs d N (k + 1) = Fs d N k := by simp [Fs, h]

theorem Fs_mem {k x : Nat} : x ∈ Fs d N k → x < k ∧ isFst d N x = true := by
  induction k with
  | zero => intro h; simp [Fs] at h
  | succ k ih =>
    intro h
    cases hf : isFst d N k with
    | true =>
      rw [Fs_yes hf] at h
      rcases List.mem_append.1 h with h | h
      · obtain ⟨h1, h2⟩ := ih h; exact ⟨by omega, h2⟩
      · simp at h; subst h; exact ⟨by omega, hf⟩
    | false =>
      rw [Fs_no hf] at h
      obtain ⟨h1, h2⟩ := ih h; exact ⟨by omega, h2⟩

theorem Fs_sorted (k : Nat) : (Fs d N k).Pairwise (· < ·) := by
  induction k with
  | zero => simp [Fs]
  | succ k ih =>
    cases hf : isFst d N k with
    | true =>
      rw [Fs_yes hf, List.pairwise_append]
      refine ⟨ih, by simp, fun a ha b hb => ?_⟩
      simp at hb
      subst hb
      exact (Fs_mem ha).1
    | false => rw [Fs_no hf]; exact ih

theorem Fs_length (k : Nat) : (Fs d N k).length ≤ k := by
  induction k with
  | zero => simp [Fs]
  | succ k ih =>
    cases hf : isFst d N k with
    | true => rw [Fs_yes hf]; simp; omega
    | false => rw [Fs_no hf]; omega

theorem Fs_rep (k p : Nat) (hp : p < k) : ∃ x, x ∈ Fs d N k ∧ sameB d (N x) (N p) = true := by
  induction k with
  | zero => omega
  | succ k ih =>
    have up : ∀ x, x ∈ Fs d N k → x ∈ Fs d N (k + 1) := fun x hx => by
      cases hf : isFst d N k with
      | true => rw [Fs_yes hf]; exact List.mem_append_left _ hx
      | false => rw [Fs_no hf]; exact hx
    by_cases e : p = k
    · subst e
      cases hf : isFst d N p with
      | true => exact ⟨p, by rw [Fs_yes hf]; simp, sameB_refl _ _⟩
      | false =>
        have hn : ¬ (∀ q, q < p → sameB d (N q) (N p) = false) := fun hh => by rw [(isFst_iff p).2 hh] at hf; cases hf
        have : ∃ q, q < p ∧ sameB d (N q) (N p) = true := by
          refine Classical.byContradiction fun hc => hn fun q hq => ?_
          cases hs : sameB d (N q) (N p) with
          | false => rfl
          | true => exact absurd ⟨q, hq, hs⟩ hc
        obtain ⟨q, hq, hs⟩ := this
        have rep : ∀ m, m ≤ p → ∀ q, q < m → ∃ x, x ∈ Fs d N m ∧ sameB d (N x) (N q) = true := by
          intro m
          induction m with
          | zero => intro _ q hq; omega
          | succ m ihm =>
            intro hm q hq
            have upm : ∀ x, x ∈ Fs d N m → x ∈ Fs d N (m + 1) := fun x hx => by
              cases hf : isFst d N m with
              | true => rw [Fs_yes hf]; exact List.mem_append_left _ hx
              | false => rw [Fs_no hf]; exact hx
            by_cases e : q = m
            · subst e
              cases hf : isFst d N q with
              | true => exact ⟨q, by rw [Fs_yes hf]; simp, sameB_refl _ _⟩
              | false =>
                have : ∃ r, r < q ∧ sameB d (N r) (N q) = true := by
                  refine Classical.byContradiction fun hc => ?_
                  rw [(isFst_iff q).2 fun r hr => by
                    cases hs : sameB d (N r) (N q) with
                    | false => rfl
                    | true => exact absurd ⟨r, hr, hs⟩ hc] at hf
                  cases hf
                obtain ⟨r, hr, hs⟩ := this
                obtain ⟨x, hx, hs'⟩ := ihm (by omega) r hr
                exact ⟨x, upm x hx, sameB_trans hs' hs⟩
            · obtain ⟨x, hx, hs'⟩ := ihm (by omega) q (by omega)
              exact ⟨x, upm x hx, hs'⟩
        obtain ⟨x, hx, hs'⟩ := rep p (Nat.le_refl _) q hq
        exact ⟨x, up x hx, sameB_trans hs' hs⟩
    · obtain ⟨x, hx, hs⟩ := ih (by omega)
      exact ⟨x, up x hx, hs⟩

theorem Fs_pw (k i j : Nat) (hij : i < j) (hj : j < (Fs d N k).length) : sameB d (N ((Fs d N k).getD i 0)) (N ((Fs d N k).getD j 0)) = false := by
  have hs := List.pairwise_iff_getElem.1 (Fs_sorted (d := d) (N := N) k) i j (by omega) hj hij
  have hm := (Fs_mem (List.getElem_mem hj)).2
  have := (isFst_iff _).1 hm _ hs
  simpa [List.getD, hj, show i < (Fs d N k).length by omega] using this

theorem lastB_succ (i k : Nat) : lastB d N i (k + 1) = if sameB d (N k) (N i) then k else lastB d N i k := rfl
theorem lastB_self (i : Nat) : lastB d N i (i + 1) = i := by rw [lastB_succ, if_pos (sameB_refl _ _)]

theorem lastB_same {i j : Nat} (h : sameB d (N i) (N j) = true) (k : Nat) : lastB d N i k = lastB d N j k := by
  induction k with
  | zero => rfl
  | succ k ih =>
    rw [lastB_succ, lastB_succ, ih]
    have : sameB d (N k) (N i) = sameB d (N k) (N j) := by
      cases h1 : sameB d (N k) (N i) with
      | true => rw [sameB_trans h1 h]
      | false =>
        cases h2 : sameB d (N k) (N j) with
        | false => rfl
        | true => rw [sameB_trans h2 (sameB_sym h)] at h1; cases h1
    rw [this]

/-- lastB is what it says. -/
theorem lastB_spec (i k : Nat) (hi : i < k) : lastB d N i k < k ∧ sameB d (N (lastB d N i k)) (N i) = true ∧ ∀ q, lastB d N i k < q → q < k → sameB d (N q) (N i) = false := by
  induction k with
  | zero => omega
  | succ k ih =>
    rw [lastB_succ]
    cases hs : sameB d (N k) (N i) with
    | true => rw [if_pos rfl]; exact ⟨by omega, hs, fun q h1 h2 => by omega⟩
    | false =>
      have hik : i < k := by
        rcases Nat.lt_or_ge i k with h | h
        · exact h
        · have : i = k := by omega
          subst this
          rw [sameB_refl] at hs; cases hs
      obtain ⟨h1, h2, h3⟩ := ih hik
      simp only [Bool.false_eq_true, if_false]
      refine ⟨by omega, h2, fun q h4 h5 => ?_⟩
      by_cases e : q = k
      · subst e; exact hs
      · exact h3 q h4 (by omega)

theorem Fs_getD_mem {k j : Nat} (hj : j < (Fs d N k).length) : (Fs d N k).getD j 0 ∈ Fs d N k := by simp [List.getD, hj]

theorem Fs_not_first {k i : Nat} (hi : i < (Fs d N k).length) (hs : sameB d (N ((Fs d N k).getD i 0)) (N k) = true) : isFst d N k = false := by
  cases hf : isFst d N k with
  | false => rfl
  | true =>
    have := (isFst_iff k).1 hf _ (Fs_mem (Fs_getD_mem hi)).1
    rw [hs] at this
    cases this

theorem Fs_first {k : Nat} (h : ∀ j, j < (Fs d N k).length → sameB d (N ((Fs d N k).getD j 0)) (N k) = false) : isFst d N k = true := by
  refine (isFst_iff k).2 fun p hp => ?_
  cases hs : sameB d (N p) (N k) with
  | false => rfl
  | true =>
    obtain ⟨x, hx, hs'⟩ := Fs_rep (d := d) (N := N) k p hp
    obtain ⟨j, hj, hxj⟩ := List.getElem_of_mem hx
    have := h j hj
    simp only [List.getD, List.getElem?_eq_getElem hj, Option.getD_some, hxj] at this
    rw [sameB_trans hs' hs] at this
    cases this

theorem Pk_length (k : Nat) : (Pk d N V k).length = (Fs d N k).length := by simp [Pk]

/-- A name that stands already: its value is replaced. -/
theorem Pk_found {k i : Nat} (hi : i < (Fs d N k).length) (hs : sameB d (N ((Fs d N k).getD i 0)) (N k) = true) :
    (Pk d N V k).set i (N ((Fs d N k).getD i 0), V k) = Pk d N V (k + 1) := by
  simp only [Pk]
  rw [Fs_no (Fs_not_first hi hs)]
  apply List.ext_getElem?
  intro j
  rw [List.getElem?_set]
  by_cases e : i = j
  · subst e
    simp only [List.length_map, hi, if_true]
    have h1 : (Fs d N k)[i]? = some ((Fs d N k).getD i 0) := by simp [List.getD, hi]
    rw [List.getElem?_map, h1, Option.map_some, lastB_succ, if_pos (sameB_sym hs)]
  · rw [if_neg e]
    simp only [List.getElem?_map]
    by_cases hj : j < (Fs d N k).length
    · have h1 : (Fs d N k)[j]? = some ((Fs d N k).getD j 0) := by simp [List.getD, hj]
      rw [h1, Option.map_some, Option.map_some, lastB_succ, if_neg]
      intro hs2
      have hpw : sameB d (N ((Fs d N k).getD i 0)) (N ((Fs d N k).getD j 0)) = true := sameB_trans hs hs2
      rcases Nat.lt_or_gt_of_ne e with h | h
      · rw [Fs_pw k i j h hj] at hpw; cases hpw
      · rw [sameB_symm, Fs_pw k j i h hi] at hpw; cases hpw
    · rw [List.getElem?_eq_none (by omega)]
      rfl

/-- A new name: it is appended. -/
theorem Pk_new {k : Nat} (h : ∀ j, j < (Fs d N k).length → sameB d (N ((Fs d N k).getD j 0)) (N k) = false) :
    Pk d N V k ++ [(N k, V k)] = Pk d N V (k + 1) := by
  simp only [Pk]
  rw [Fs_yes (Fs_first h), List.map_append]
  congr 1
  · apply List.map_congr_left
    intro x hx
    obtain ⟨j, hj, hxj⟩ := List.getElem_of_mem hx
    have := h j hj
    simp only [List.getD, List.getElem?_eq_getElem hj, Option.getD_some, hxj] at this
    rw [lastB_succ, if_neg]
    rw [sameB_symm, this]
    simp
  · simp [lastB_self]

theorem Pk_at (k j : Nat) (hj : j < (Fs d N k).length) : (Pk d N V k)[j]? = some (N ((Fs d N k).getD j 0), V (lastB d N ((Fs d N k).getD j 0) k)) := by
  simp [Pk, List.getD, hj]

theorem Fs_prefix (k m : Nat) (h : k ≤ m) : Fs d N k <+: Fs d N m := by
  obtain ⟨t, rfl⟩ : ∃ t, m = k + t := ⟨m - k, by omega⟩
  clear h
  induction t with
  | zero => exact List.prefix_rfl
  | succ t ih =>
    refine ih.trans ?_
    show _ <+: (if isFst d N (k + t) then Fs d N (k + t) ++ [k + t] else Fs d N (k + t))
    split
    · exact List.prefix_append _ _
    · exact List.prefix_rfl

/-- Where a first appearance stands. -/
theorem Fs_where {i n : Nat} (hi : i < n) (hf : isFst d N i = true) : (Fs d N i).length < (Fs d N n).length ∧ (Fs d N n).getD (Fs d N i).length 0 = i := by
  obtain ⟨t, ht⟩ := Fs_prefix (d := d) (N := N) (i + 1) n (by omega)
  rw [Fs_yes hf] at ht
  rw [← ht]
  simp [List.getD]
end
end Go.Proofs.Qxb6001758a

/- (*Stanza).index, place, ZZPlace -/
import Derived.Test.Qxb6001758aIndex
namespace Go.Proofs.Qxb6001758a
open Go.RowKit
set_option linter.unusedVariables false

set_option maxHeartbeats 800000 in
theorem index_any (d : Bool) (sb : Nat) (a : Option Addr) (n c : Nat) (N V : Nat → ByteArray) (s : ByteArray) (w : World) (h : Flds w a n N V) (hn : n ≤ 1048576) (hs : s.size ≤ maxLen)
    (h0 : w.cell? ⟨sb, 0, none⟩ = some (.slice a n c)) (h2 : w.cell? ⟨sb, 2, none⟩ = some (.int .u8 (rl d))) :
    Calls Try.prog 30 #[.pointer (some ⟨sb, 0, none⟩), .string s] w fun e w' => IdxRet (fun j => sameB d (N j) s) n e ∧ Below w.heap.size w w' := by
  go_enter Try.func30, Try.ntmps30
  go_wp2
  go_region_with (go_at_call 27; refine (indexOf_any _ _ _ _ N V _ _ ?_ hn hs).mono ?_; exact h; rintro e w1 ⟨⟨x, rfl, hx⟩, hb1⟩)
  all_goals (go_wp2; go_ret; exact ⟨⟨_, rfl, hx⟩, ((Below.refl _ w).drew).trans hb1⟩)

/-- The slice at 'a' holds n field texts: names N, removed R; all else zero. -/
def FTs (w : World) (a : Option Addr) (n : Nat) (N : Nat → ByteArray) (R : Nat → Bool) : Prop :=
  ∀ i, i < n → ∃ b off, a = some ⟨b, off, none⟩ ∧ w.cell? ⟨b, off + i * 6, none⟩ = some (.string (N i)) ∧ w.cell? ⟨b, off + i * 6 + 1, none⟩ = some (.int .i64 0) ∧ w.cell? ⟨b, off + i * 6 + 2, none⟩ = some (.int .i64 0)
    ∧ w.cell? ⟨b, off + i * 6 + 3, none⟩ = some (.string ByteArray.empty) ∧ w.cell? ⟨b, off + i * 6 + 4, none⟩ = some (.bool false) ∧ w.cell? ⟨b, off + i * 6 + 5, none⟩ = some (.bool (R i)) ∧ (N i).size ≤ maxLen

theorem FTs.below {w w' : World} {a : Option Addr} {n : Nat} {N : Nat → ByteArray} {R : Nat → Bool} {B : Nat} (h : FTs w a n N R) (hB : w.heap.size ≤ B) (hb : Below B w w') : FTs w' a n N R := by
  intro i hi
  obtain ⟨b, off, e, c0, c1, c2, c3, c4, c5, hs⟩ := h i hi
  have := World.block_lt_of_cell? _ _ c0
  have hl : b < B := by simp at this; omega
  have g : ∀ o, w'.cell? ⟨b, o, none⟩ = w.cell? ⟨b, o, none⟩ := fun o => hb.cell (p := ⟨b, o, none⟩) hl
  exact ⟨b, off, e, by rw [g]; exact c0, by rw [g]; exact c1, by rw [g]; exact c2, by rw [g]; exact c3, by rw [g]; exact c4, by rw [g]; exact c5, hs⟩

/-- What place returns. -/
def PlaceRet (d : Bool) (L : Nat → ByteArray) (n : Nat) (N : Nat → ByteArray) (R : Nat → Bool) (m j : Nat) (e : Ending) : Prop :=
  ∃ x : Int, e = .returned (.int .i64 x) ∧
    ((∃ i k, j < i ∧ i < m ∧ R i = false ∧ x = (k : Nat) ∧ k < n ∧ sameB d (L k) (N i) = true ∧ (∀ j', j' < k → sameB d (L j') (N i) = false) ∧ ∀ i', j < i' → i' < i → R i' = true ∨ ∀ j', j' < n → sameB d (L j') (N i') = false)
     ∨ (x = (n : Int) ∧ ∀ i', j < i' → i' < m → R i' = true ∨ ∀ j', j' < n → sameB d (L j') (N i') = false))

/-- No field text from j + 1 on, k of them, is living and held by the stanza. -/
def Passed (d : Bool) (L : Nat → ByteArray) (n : Nat) (N : Nat → ByteArray) (R : Nat → Bool) (j k : Nat) : Prop :=
  ∀ i', j < i' → i' < j + 1 + k → R i' = true ∨ ∀ j', j' < n → sameB d (L j') (N i') = false

theorem passed_step {d : Bool} {L : Nat → ByteArray} {n : Nat} {N : Nat → ByteArray} {R : Nat → Bool} {j k : Nat} (h : Passed d L n N R j k) (h1 : R (j + 1 + k) = true ∨ ∀ j', j' < n → sameB d (L j') (N (j + 1 + k)) = false) :
    Passed d L n N R j (k + 1) := by
  intro i' h2 h3
  by_cases e : i' = j + 1 + k
  · subst e; exact h1
  · exact h i' h2 (by omega)

theorem placeRet_end {d : Bool} {L : Nat → ByteArray} {n : Nat} {N : Nat → ByteArray} {R : Nat → Bool} {j k m : Nat} (h : Passed d L n N R j k) (hk : m ≤ j + 1 + k) : PlaceRet d L n N R m j (.returned (.int .i64 n)) :=
  ⟨n, rfl, .inr ⟨rfl, fun i' h1 h2 => h i' h1 (by omega)⟩⟩

theorem placeRet_at {d : Bool} {L : Nat → ByteArray} {n : Nat} {N : Nat → ByteArray} {R : Nat → Bool} {j k m : Nat} {x : Int} (h : Passed d L n N R j k) (hk : j + 1 + k < m) (hr : R (j + 1 + k) = false)
    (hx : Found (fun j' => sameB d (L j') (N (j + 1 + k))) n x) (h0 : 0 ≤ x) : PlaceRet d L n N R m j (.returned (.int .i64 x)) := by
  rcases hx with ⟨rfl, _⟩ | ⟨k', rfl, h1, h2, h3⟩
  · omega
  · exact ⟨_, rfl, .inl ⟨j + 1 + k, k', by omega, hk, hr, rfl, h1, h2, h3, fun i' a b => h i' a (by omega)⟩⟩

theorem found_neg {p : Nat → Bool} {n : Nat} {x : Int} (hx : Found p n x) (h0 : x < 0) : ∀ j, j < n → p j = false := by
  rcases hx with ⟨_, h⟩ | ⟨k', rfl, h1, h2, h3⟩
  · exact h
  · omega

set_option maxHeartbeats 1600000 in
theorem place_any (d : Bool) (tb sb : Nat) (a : Option Addr) (n c : Nat) (L V : Nat → ByteArray) (fa : Option Addr) (m : Nat) (N : Nat → ByteArray) (R : Nat → Bool) (j : Nat) (w : World)
    (h : Flds w a n L V) (hn : n ≤ 1048576) (hF : FTs w fa m N R) (hm : m ≤ 1048576) (hj : j < m)
    (h0 : w.cell? ⟨sb, 0, none⟩ = some (.slice a n c)) (h2 : w.cell? ⟨sb, 2, none⟩ = some (.int .u8 (rl d)))
    (t0 : w.cell? ⟨tb, 0, none⟩ = some (.pointer (some ⟨sb, 0, none⟩))) (t14 : w.cell? ⟨tb, 14, none⟩ = some (.slice fa m m)) :
    Calls Try.prog 26 #[.pointer (some ⟨tb, 0, none⟩), .int .i64 j] w fun e w' => PlaceRet d L n N R m j e ∧ Below w.heap.size w w' := by
  obtain ⟨b, off, rfl, _⟩ := hF j hj
  have sbl := World.block_lt_of_cell? _ _ h0
  have tbl := World.block_lt_of_cell? _ _ t0
  simp only at sbl tbl
  by_cases he : j + 1 = m
  · have he1 : m = j + 1 := by omega
    clear he
    subst he1
    go_enter Try.func26, Try.ntmps26
    go_wp2
    go_loopw [16] (fun i wr => i = .int .i64 0 ∧ wr = w) (fun i _ => 0)
    case atStart => exact ⟨rfl, rfl⟩
    case round =>
      obtain ⟨rfl, rfl⟩ := hrel
      go_wp2
      go_ret
      exact ⟨placeRet_end (k := 0) (fun i' a b => by omega) (by omega), Below.refl _ _⟩
  · have he1 : ¬ m = j + 1 := by omega
    go_enter Try.func26, Try.ntmps26
    go_wp2
    go_loopw [16] (fun i wr => ∃ k : Nat, k ≤ m - (j + 1) ∧ i = .int .i64 k ∧ Below w.heap.size w wr ∧ Hid (Passed d L n N R j k)) (fun i _ => m - (j + 1) - (intOf i).toNat)
    case atStart => exact ⟨0, Nat.zero_le _, rfl, Below.refl _ _, fun i' h1 h2 => by omega⟩
    case round =>
      obtain ⟨k, hk, rfl, hb, hall⟩ := hrel
      by_cases hlt : k < m - (j + 1)
      · obtain ⟨b', off', e, c0, c1, c2, c3, c4, c5, hsN⟩ := (hF.below (Nat.le_refl _) hb) (j + 1 + k) (by omega)
        simp only [Option.some.injEq, Addr.mk.injEq] at e
        obtain ⟨rfl, rfl, _⟩ := e
        have eo : off + (j + 1 + k) * 6 = off + (j + 1) * 6 + k * 6 := by omega
        rw [eo] at c0 c1 c2 c3 c4 c5
        clear eo
        have g0 := (hb.cell (p := ⟨tb, 0, none⟩) tbl).trans t0
        by_cases hr : R (j + 1 + k) = true
        · rw [hr] at c5
          go_wp2
          go_roundw
          case rel => exact ⟨k + 1, by omega, by go_num, hb.alloc hb.size _, passed_step hall (.inl hr)⟩
          case measure => simp [intOf]; omega
        · have hr' : R (j + 1 + k) = false := by simpa using hr
          rw [hr'] at c5
          have hbA := hb.alloc hb.size (Obj.cells #[.string (N (j + 1 + k)), .int .i64 0, .int .i64 0, .string ByteArray.empty, .bool false, .bool false] 60)
          have tbl' : tb < wr.heap.size := by have := hb.size; omega
          have tbn : ¬ tb = wr.heap.size := by omega
          have g0A := (hbA.cell (p := ⟨tb, 0, none⟩) tbl).trans t0
          go_wp2
          go_region_with (go_at_call 30; refine (index_any d sb a n c L V _ _ ?_ hn hsN ?_ ?_).mono ?_; exact h.below (Nat.le_refl _) hbA.drew; exact (hbA.drew.cell (p := ⟨sb, 0, none⟩) sbl).trans h0; exact (hbA.drew.cell (p := ⟨sb, 2, none⟩) sbl).trans h2; rintro e w1 ⟨⟨x, rfl, hx⟩, hb1⟩)
          all_goals
            have hb2 : Below w.heap.size w w1 := hbA.drew.trans (hb1.mono hbA.size)
            clear hb1 hbA g0A g0 c0 c1 c2 c3 c4 c5
            by_cases hx0 : 0 ≤ x
            · go_wp2
              go_ret
              exact ⟨placeRet_at hall (by omega) hr' hx hx0, hb2⟩
            · go_wp2
              go_roundw
              case rel => exact ⟨k + 1, by omega, by go_num, hb2, passed_step hall (.inr (found_neg hx (by omega)))⟩
              case measure => simp [intOf]; omega
      · have g0 := (hb.cell (p := ⟨tb, 0, none⟩) tbl).trans t0
        have g1 := (hb.cell (p := ⟨sb, 0, none⟩) sbl).trans h0
        go_wp2
        go_ret
        exact ⟨placeRet_end hall (by omega), hb⟩
end Go.Proofs.Qxb6001758a

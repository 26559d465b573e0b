/- FnNextSteadyWantClosedForm: the walk. -/
import Derived.Test.Qxb6600758aRows
import Derived.WalkKit
import Derived.WalkSpells
import Derived.WalkLawsBesides
import Derived.Below
namespace Go.Proofs.Qxb6600758a
open Go.RowKit
set_option linter.unusedVariables false

theorem i64_bounds {x : Int} (h : (Lit.int .i64 x).wf = true) : -9223372036854775808 ≤ x ∧ x ≤ 9223372036854775807 := by
  simp [Lit.wf, IntKind.min, IntKind.max, IntKind.signed, IntKind.bits] at h
  omega

set_option maxHeartbeats 800000 in
theorem steady_up (n want : Int) (k : Nat) (w : World) (hk : k ≤ 65536) (hw : n ≤ want) (n0 : -9223372036854775808 ≤ n) (n1 : want ≤ 9223372036854775807) :
    Calls Try.prog 3 #[.int .i64 n, .int .i64 want, .int .i64 k] w fun e w' => e = .returned (.bool true) ∧ w' = w := by
  have hd0 : decide ((k : Int) < 0) = false := by simp
  have hd1 : decide ((65536 : Int) < (k : Int)) = false := by simp; omega
  go_enter Try.func3, Try.ntmps3
  go_wp2
  go_loop [7, 8, 9] (fun c f i => ∃ (j : Nat) (x : Int), j ≤ k ∧ i = .int .i64 j ∧ f = .int .i64 0 ∧ c = .int .i64 x ∧ Hid ((j = 0 ∧ x = n) ∨ (0 < j ∧ x = want)) ∧ x ≤ want) (fun _ _ i => k - (intOf i).toNat)
  case atStart => exact ⟨0, n, Nat.zero_le _, rfl, rfl, rfl, .inl ⟨rfl, rfl⟩, hw⟩
  case round =>
    obtain ⟨j, x, hj, rfl, rfl, rfl, hx, hxw⟩ := hrel
    by_cases hlt : j < k
    · by_cases hxe : x < want
      · go_wp2
        go_round
        case rel => exact ⟨j + 1, want, by omega, by go_num, rfl, rfl, .inr ⟨by omega, rfl⟩, Int.le_refl _⟩
        case measure => simp [intOf]; omega
      · obtain rfl : x = want := by omega
        have hb : (x == x) = true := by simp
        go_wp2
        go_round
        case rel => exact ⟨j + 1, x, by omega, by go_num, rfl, rfl, .inr ⟨by omega, rfl⟩, Int.le_refl _⟩
        case measure => simp [intOf]; omega
    · obtain rfl : k = j := by omega
      rcases hx.out with ⟨h0, rfl⟩ | ⟨h0, rfl⟩
      · subst h0
        go_wp2
        go_ret
        exact ⟨rfl, rfl⟩
      · have hb : ((k : Int) == 0) = false := by simp; omega
        go_wp2
        go_ret
        exact ⟨rfl, rfl⟩

/-- The state after i readings that ask for want, fewer than n: x processors, y readings. -/
def StI (n want : Int) (i : Nat) (x y : Int) : Prop :=
  ∃ D R : Nat, i = 10 * D + R ∧ R < 10 ∧ (((D : Int) < n - want ∧ x = n - D ∧ y = R) ∨ (n - want ≤ D ∧ x = want ∧ y = 0))

theorem StI.zero {n want : Int} (h : want < n) : StI n want 0 n 0 := ⟨0, 0, rfl, by omega, .inl ⟨by omega, by omega, rfl⟩⟩
theorem StI.range {n want : Int} {i : Nat} {x y : Int} (hs : StI n want i x y) : want ≤ x ∧ x ≤ n ∧ 0 ≤ y ∧ y ≤ 9 ∨ want ≤ x ∧ x = want ∧ y = 0 := by
  obtain ⟨D, R, hi, hR, ⟨h1, rfl, rfl⟩ | ⟨h1, rfl, rfl⟩⟩ := hs
  · left; omega
  · right; omega
theorem StI.drop {n want : Int} {i : Nat} {x y : Int} (hs : StI n want i x y) (hx : want < x) (hy : y = 9) : StI n want (i + 1) (x - 1) 0 := by
  obtain ⟨D, R, hi, hR, ⟨h1, rfl, rfl⟩ | ⟨h1, rfl, rfl⟩⟩ := hs
  · by_cases h : (D : Int) + 1 < n - want
    · exact ⟨D + 1, 0, by omega, by omega, .inl ⟨by omega, by omega, rfl⟩⟩
    · exact ⟨D + 1, 0, by omega, by omega, .inr ⟨by omega, by omega, rfl⟩⟩
  · omega
theorem StI.stay {n want : Int} {i : Nat} {x y : Int} (hs : StI n want i x y) (hx : want < x) (hy : y < 9) : StI n want (i + 1) x (y + 1) := by
  obtain ⟨D, R, hi, hR, ⟨h1, rfl, rfl⟩ | ⟨h1, rfl, rfl⟩⟩ := hs
  · exact ⟨D, R + 1, by omega, by omega, .inl ⟨h1, rfl, by omega⟩⟩
  · omega
theorem StI.done {n want : Int} {i : Nat} {x y : Int} (hs : StI n want i x y) (hx : x = want) : StI n want (i + 1) x 0 := by
  obtain ⟨D, R, hi, hR, ⟨h1, rfl, rfl⟩ | ⟨h1, rfl, rfl⟩⟩ := hs
  · omega
  · by_cases h : R = 9
    · exact ⟨D + 1, 0, by omega, by omega, .inr ⟨by omega, rfl, rfl⟩⟩
    · exact ⟨D, R + 1, by omega, by omega, .inr ⟨h1, rfl, rfl⟩⟩
theorem StI.fin {n want : Int} {i : Nat} {x y : Int} (hs : StI n want i x y) :
    ((((i / 10 : Nat) : Int) < n - want ∧ x = n - ((i / 10 : Nat) : Int) ∧ y = ((i % 10 : Nat) : Int)) ∨ (¬ (((i / 10 : Nat) : Int) < n - want) ∧ x = want ∧ y = 0)) := by
  obtain ⟨D, R, hi, hR, ⟨h1, rfl, rfl⟩ | ⟨h1, rfl, rfl⟩⟩ := hs
  · left; omega
  · right; omega

theorem gap_eq (n want : Int) (h : want < n) (n0 : -9223372036854775808 ≤ want) (n1 : n ≤ 9223372036854775807) : IntKind.u64.wrap (IntKind.u64.wrap n - IntKind.u64.wrap want) = n - want := by
  have e : ∀ z, IntKind.u64.wrap z = z % 18446744073709551616 := fun z => by simp [IntKind.wrap, IntKind.signed, IntKind.bits]
  rw [e, e, e]
  omega

set_option maxHeartbeats 800000 in
theorem steady_down (n want : Int) (k : Nat) (w : World) (hk : k ≤ 65536) (hw : want < n) (n0 : -9223372036854775808 ≤ want) (n1 : n ≤ 9223372036854775807) :
    Calls Try.prog 3 #[.int .i64 n, .int .i64 want, .int .i64 k] w fun e w' => e = .returned (.bool true) ∧ w' = w := by
  have hd0 : decide ((k : Int) < 0) = false := by simp
  have hd1 : decide ((65536 : Int) < (k : Int)) = false := by simp; omega
  go_enter Try.func3, Try.ntmps3
  go_wp2
  go_loop [7, 8, 9] (fun c f i => ∃ (j : Nat) (x y : Int), j ≤ k ∧ i = .int .i64 j ∧ f = .int .i64 y ∧ c = .int .i64 x ∧ Hid (StI n want j x y)) (fun _ _ i => k - (intOf i).toNat)
  case atStart => exact ⟨0, n, 0, Nat.zero_le _, rfl, rfl, rfl, StI.zero hw⟩
  case round =>
    obtain ⟨j, x, y, hj, rfl, rfl, rfl, hs⟩ := hrel
    have hr := hs.out.range
    have hr1 : want ≤ x := by omega
    have hr2 : x ≤ n := by omega
    have hr3 : 0 ≤ y := by omega
    have hr4 : y ≤ 9 := by omega
    clear hr
    by_cases hlt : j < k
    · by_cases hxe : want < x
      · by_cases hy : y < 9
        · go_wp2
          go_round
          case rel => exact ⟨j + 1, _, _, by omega, by go_num, rfl, rfl, hs.out.stay hxe hy⟩
          case measure => simp [intOf]; omega
        · have hy9 : 9 ≤ y := by omega
          go_wp2
          go_round
          case rel => exact ⟨j + 1, _, _, by omega, by go_num, rfl, rfl, hs.out.drop hxe (by omega)⟩
          case measure => simp [intOf]; omega
      · obtain rfl : x = want := by omega
        have hb : (x == x) = true := by simp
        go_wp2
        go_round
        case rel => exact ⟨j + 1, _, _, by omega, by go_num, rfl, rfl, hs.out.done rfl⟩
        case measure => simp [intOf]; omega
    · obtain rfl : k = j := by omega
      have hf := hs.out.fin
      by_cases hk0 : k = 0
      · subst hk0
        have hx : x = n := by omega
        have hy : y = 0 := by omega
        clear hf
        subst hx hy
        have hb : (x == x) = true := by simp
        go_wp2
        go_ret
        exact ⟨rfl, rfl⟩
      · have hb : ((k : Int) == 0) = false := by simp; omega
        have hgap := gap_eq n want hw n0 n1
        have hdw : decide (n ≤ want) = false := by simp; omega
        rcases hf with ⟨h1, h2, h3⟩ | ⟨h1, h2, h3⟩
        · have g1 : (k : Int) / 10 < n - want := by omega
          have hbx : (x == n - (k : Int) / 10) = true := by rw [beq_iff_eq]; omega
          have hby : (y == (k : Int) % 10) = true := by rw [beq_iff_eq]; omega
          have hdg : decide ((k : Int) / 10 < n - want) = true := by simp; omega
          clear h1 h2 h3
          go_wp2
          go_ret
          exact ⟨rfl, rfl⟩
        · have g1 : ¬ (k : Int) / 10 < n - want := by omega
          have hdg : decide ((k : Int) / 10 < n - want) = false := by simp; omega
          have hbx : (x == want) = true := by rw [beq_iff_eq]; omega
          have hby : (y == 0) = true := by rw [beq_iff_eq]; omega
          clear h1 h2 h3
          go_wp2
          go_ret
          exact ⟨rfl, rfl⟩

set_option maxHeartbeats 400000 in
theorem steadyWalk (n want k : Int) (w0 : (Lit.int .i64 n).wf = true) (w1 : (Lit.int .i64 want).wf = true) (w : World) :
    Calls Try.prog 3 #[.int .i64 n, .int .i64 want, .int .i64 k] w fun e w' => e = .returned (.bool true) ∧ Below w.heap.size w w' := by
  have b0 := i64_bounds w0
  have b1 := i64_bounds w1
  clear w0 w1
  by_cases h0 : k < 0
  · have hd : decide (k < 0) = true := by simp; omega
    go_enter Try.func3, Try.ntmps3
    go_wp2
    go_ret
    exact ⟨rfl, Below.refl _ _⟩
  by_cases h1 : 65536 < k
  · have hd : decide (k < 0) = false := by simp; omega
    have hd1 : decide (65536 < k) = true := by simp; omega
    go_enter Try.func3, Try.ntmps3
    go_wp2
    go_ret
    exact ⟨rfl, Below.refl _ _⟩
  obtain ⟨q, rfl⟩ := Int.eq_ofNat_of_zero_le (show 0 ≤ k by omega)
  by_cases hw : n ≤ want
  · refine (steady_up n want q w (by omega) hw b0.1 b1.2).mono fun e w' ⟨he, hw'⟩ => ?_
    exact ⟨he, by rw [hw']; exact Below.refl _ _⟩
  · refine (steady_down n want q w (by omega) (by omega) b1.1 b0.2).mono fun e w' ⟨he, hw'⟩ => ?_
    exact ⟨he, by rw [hw']; exact Below.refl _ _⟩
end Go.Proofs.Qxb6600758a

/- zzAge, Compare, ageAdmitsHalf, ageSubset; FnAgeCompareMatchesAdmittedAges: the walk. -/
import Derived.Test.Qxb6001763aRows
import Derived.WalkKit
import Derived.WalkSpells
import Derived.WalkLawsBesides
import Derived.Below
namespace Go.Proofs.Qxb6001763a
open Go.RowKit
set_option linter.unusedVariables false

/-- An age of these parts. -/
def ageV (m : Int) (i y : Bool) : Value := .agg #[.int .i64 m, .bool i, .bool y]

set_option maxHeartbeats 400000 in
theorem zzAge_any (m : Int) (i y : Bool) (w : World) :
    Calls Try.prog 8 #[.int .i64 m, .bool i, .bool y] w fun e w' => e = .returned (ageV m i y) ∧ Below w.heap.size w w' := by
  go_enter Try.func8, Try.ntmps8
  go_wp2
  exact bodyPost_ret (v := ageV m i y) (by simp [results, Try.results8, go_sem, ageV]) rfl ⟨rfl, (Below.refl _ _).alloc (Nat.le_refl _) _⟩

/-- What Compare answers. -/
def cmpI (am : Int) (ai aa : Bool) (bm : Int) (bi ba : Bool) : Int :=
  if aa && ba then 0 else if aa then 1 else if ba then -1 else if am < bm then -1 else if bm < am then 1 else if ai == bi then 0 else if ai then 1 else -1

theorem ret_int {k : IntKind} {a b : Int} (h : a = b) : Ending.returned (.int k a) = .returned (.int k b) := by rw [h]

set_option maxHeartbeats 1600000 in
theorem compare_any (am : Int) (ai aa : Bool) (bm : Int) (bi ba : Bool) (w : World) :
    Calls Try.prog 9 #[ageV am ai aa, ageV bm bi ba] w fun e w' => e = .returned (.int .i64 (cmpI am ai aa bm bi ba)) ∧ Below w.heap.size w w' := by
  unfold ageV
  have hB : ∀ o1 o2, Below w.heap.size w ((w.alloc o1).alloc o2) := fun o1 o2 => ((Below.refl _ _).alloc (Nat.le_refl _) _).alloc (by simp) _
  cases aa <;> cases ba
  · by_cases h1 : am < bm
    · go_enter Try.func9, Try.ntmps9
      go_wp2
      go_ret
      exact ⟨ret_int (by simp [cmpI, h1]), hB _ _⟩
    · by_cases h2 : bm < am
      · go_enter Try.func9, Try.ntmps9
        go_wp2
        go_ret
        exact ⟨ret_int (by simp [cmpI, show ¬ am < bm by omega, h2]), hB _ _⟩
      · cases ai <;> cases bi
        all_goals
          go_enter Try.func9, Try.ntmps9
          go_wp2
          go_ret
          exact ⟨ret_int (by simp [cmpI, show ¬ am < bm by omega, show ¬ bm < am by omega]), hB _ _⟩
  all_goals
    go_enter Try.func9, Try.ntmps9
    go_wp2
    go_ret
    exact ⟨ret_int (by simp [cmpI]), hB _ _⟩

/-- Which ages an age admits, in half months. -/
def admB (m : Int) (i y : Bool) (x : Int) : Bool := y || decide (x < 2 * m) || (x == 2 * m && i)

theorem ret_bool {a b : Bool} (h : a = b) : Ending.returned (.bool a) = .returned (.bool b) := by rw [h]

set_option maxHeartbeats 400000 in
theorem adm_any (m : Int) (i y : Bool) (x : Int) (w : World) (h0 : -1099511627776 ≤ m) (h1 : m ≤ 1099511627776) :
    Calls Try.prog 17 #[.int .i64 m, .bool i, .bool y, .int .i64 x] w fun e w' => e = .returned (.bool (admB m i y x)) ∧ w' = w := by
  cases y
  · by_cases h2 : x < 2 * m
    · go_enter Try.func17, Try.ntmps17
      go_wp2
      go_ret
      exact ⟨ret_bool (by simp [admB, h2]), rfl⟩
    · by_cases h3 : x = 2 * m
      · have hb : (x == 2 * m) = true := by simp [h3]
        clear h3
        go_enter Try.func17, Try.ntmps17
        go_wp2
        go_ret
        exact ⟨ret_bool (by simp [admB, show ¬ x < 2 * m by omega, hb]), rfl⟩
      · have hb : (x == 2 * m) = false := by simp [h3]
        go_enter Try.func17, Try.ntmps17
        go_wp2
        go_ret
        exact ⟨ret_bool (by simp [admB, show ¬ x < 2 * m by omega, hb]), rfl⟩
  · go_enter Try.func17, Try.ntmps17
    go_wp2
    go_ret
    exact ⟨ret_bool (by simp [admB]), rfl⟩

/-- The k-th probe. -/
def pr (am bm : Int) (k : Nat) : Int := [2 * am - 1, 2 * am, 2 * am + 1, 2 * bm - 1, 2 * bm, 2 * bm + 1, 4611686018427387904].getD k 0

/-- Does the first take the k-th probe, and the second not? -/
def badB (am : Int) (ai aa : Bool) (bm : Int) (bi ba : Bool) (k : Nat) : Bool := admB am ai aa (pr am bm k) && !admB bm bi ba (pr am bm k)

/-- What ageSubset answers. -/
def subB (am : Int) (ai aa : Bool) (bm : Int) (bi ba : Bool) : Bool := (List.range 7).all fun k => !badB am ai aa bm bi ba k

theorem pr_cell (w : World) (am bm : Int) (k : Nat) (hk : k < 7) :
    (w.alloc (.cells #[.int .i64 (2 * am - 1), .int .i64 (2 * am), .int .i64 (2 * am + 1), .int .i64 (2 * bm - 1), .int .i64 (2 * bm), .int .i64 (2 * bm + 1), .int .i64 4611686018427387904] 41)).cell? ⟨w.heap.size, k, none⟩ = some (.int .i64 (pr am bm k)) := by
  match k, hk with
  | 0, _ => simp [pr]
  | 1, _ => simp [pr]
  | 2, _ => simp [pr]
  | 3, _ => simp [pr]
  | 4, _ => simp [pr]
  | 5, _ => simp [pr]
  | 6, _ => simp [pr]

theorem subB_no {am : Int} {ai aa : Bool} {bm : Int} {bi ba : Bool} {k : Nat} (hk : k < 7) (h : badB am ai aa bm bi ba k = true) : subB am ai aa bm bi ba = false := by
  cases hs : subB am ai aa bm bi ba with
  | false => rfl
  | true =>
    have := List.all_eq_true.1 hs k (List.mem_range.2 hk)
    rw [h] at this
    cases this

theorem subB_yes {am : Int} {ai aa : Bool} {bm : Int} {bi ba : Bool} (h : ∀ k, k < 7 → badB am ai aa bm bi ba k = false) : subB am ai aa bm bi ba = true := by
  refine List.all_eq_true.2 fun k hk => ?_
  rw [h k (List.mem_range.1 hk)]
  rfl

set_option maxHeartbeats 1600000 in
theorem subset_any (am : Int) (ai aa : Bool) (bm : Int) (bi ba : Bool) (w : World) (a0 : -1099511627776 ≤ am) (a1 : am ≤ 1099511627776) (b0 : -1099511627776 ≤ bm) (b1 : bm ≤ 1099511627776) :
    Calls Try.prog 10 #[.int .i64 am, .bool ai, .bool aa, .int .i64 bm, .bool bi, .bool ba] w fun e w' => e = .returned (.bool (subB am ai aa bm bi ba)) ∧ Below w.heap.size w w' := by
  have hnot : ∀ (x : Bool) (w : World), (Op.unary .not (.bool x)).run Try.prog w = .ok (.bool (!x)) w := fun _ _ => rfl
  go_enter Try.func10, Try.ntmps10
  go_wp2
  go_loop [14] (fun i => ∃ k : Nat, k ≤ 7 ∧ i = .int .i64 k ∧ Hid (∀ j, j < k → badB am ai aa bm bi ba j = false)) (fun i => 7 - (intOf i).toNat)
  case atStart => exact ⟨0, Nat.zero_le _, rfl, fun j hj => by omega⟩
  case round =>
    obtain ⟨k, hk, rfl, hall⟩ := hrel
    by_cases hlt : k < 7
    · have hc := pr_cell w am bm k hlt
      go_wp2_with fail
      refine (adm_any am ai aa _ _ a0 a1).mono ?_
      rintro e w1 ⟨rfl, hw⟩
      rw [hw]
      clear hw w1
      cases h1 : admB am ai aa (pr am bm k)
      · have HB : Hid (badB am ai aa bm bi ba k = false) := by show badB am ai aa bm bi ba k = false; unfold badB; rw [h1]; rfl
        go_wp2
        go_round
        case rel =>
          refine ⟨k + 1, by omega, by go_num, fun j hj => ?_⟩
          by_cases e : j = k
          · subst e; exact HB.out
          · exact hall.out j (by omega)
        case measure => simp [intOf]; omega
      · go_wp2_with fail
        refine (adm_any bm bi ba _ _ b0 b1).mono ?_
        rintro e w1 ⟨rfl, hw⟩
        rw [hw]
        clear hw w1
        cases h2 : admB bm bi ba (pr am bm k)
        · have HB : Hid (badB am ai aa bm bi ba k = true) := by show badB am ai aa bm bi ba k = true; unfold badB; rw [h1, h2]; rfl
          go_wp2
          go_ret
          exact ⟨ret_bool (subB_no hlt HB.out).symm, (Below.refl _ _).alloc (Nat.le_refl _) _⟩
        · have HB : Hid (badB am ai aa bm bi ba k = false) := by show badB am ai aa bm bi ba k = false; unfold badB; rw [h1, h2]; rfl
          go_wp2
          go_round
          case rel =>
            refine ⟨k + 1, by omega, by go_num, fun j hj => ?_⟩
            by_cases e : j = k
            · subst e; exact HB.out
            · exact hall.out j (by omega)
          case measure => simp [intOf]; omega
    · go_wp2
      go_ret
      exact ⟨ret_bool (subB_yes (fun j hj => hall.out j (by omega))).symm, (Below.refl _ _).alloc (Nat.le_refl _) _⟩

theorem all7 (f : Nat → Bool) : (List.range 7).all f = (f 0 && f 1 && f 2 && f 3 && f 4 && f 5 && f 6) := by
  simp [List.range_succ, Bool.and_assoc]

/-- The law: subset is 'not greater'. -/
theorem sub_law (am : Int) (ai aa : Bool) (bm : Int) (bi ba : Bool) (a0 : -1099511627776 ≤ am) (a1 : am ≤ 1099511627776) (b0 : -1099511627776 ≤ bm) (b1 : bm ≤ 1099511627776) :
    subB am ai aa bm bi ba = decide (cmpI am ai aa bm bi ba ≤ 0) := by
  rw [Bool.eq_iff_iff, decide_eq_true_iff, subB, all7]
  cases ai <;> cases aa <;> cases bi <;> cases ba
  all_goals
    simp only [badB, admB, pr, cmpI, List.getD_cons_zero, List.getD_cons_succ]
    simp
    try omega

theorem cmpI_range (am : Int) (ai aa : Bool) (bm : Int) (bi ba : Bool) : cmpI am ai aa bm bi ba = -1 ∨ cmpI am ai aa bm bi ba = 0 ∨ cmpI am ai aa bm bi ba = 1 := by
  unfold cmpI
  repeat' split
  all_goals simp

theorem cmpI_anti (am : Int) (ai aa : Bool) (bm : Int) (bi ba : Bool) : cmpI bm bi ba am ai aa = - cmpI am ai aa bm bi ba := by
  unfold cmpI
  cases ai <;> cases aa <;> cases bi <;> cases ba <;> simp
  all_goals
    by_cases h1 : am < bm
    · simp [h1, show ¬ bm < am by omega]
    · by_cases h2 : bm < am
      · simp [h1, h2]
      · simp [h1, h2]

set_option maxHeartbeats 1600000 in
theorem ageWalk (am : Int) (ai aa : Bool) (bm : Int) (bi ba : Bool) (w : World) :
    Calls Try.prog 3 #[.int .i64 am, .bool ai, .bool aa, .int .i64 bm, .bool bi, .bool ba] w fun e w' => e = .returned (.bool true) ∧ Below w.heap.size w w' := by
  by_cases a0 : am < -1099511627776
  · have hd : decide (am < -1099511627776) = true := by simp; omega
    go_enter Try.func3, Try.ntmps3
    go_wp2
    go_ret
    exact ⟨rfl, Below.refl _ _⟩
  have ha0 : decide (am < -1099511627776) = false := by simp; omega
  by_cases a1 : 1099511627776 < am
  · have hd : decide (1099511627776 < am) = true := by simp; omega
    go_enter Try.func3, Try.ntmps3
    go_wp2
    go_ret
    exact ⟨rfl, Below.refl _ _⟩
  have ha1 : decide (1099511627776 < am) = false := by simp; omega
  by_cases b0 : bm < -1099511627776
  · have hd : decide (bm < -1099511627776) = true := by simp; omega
    go_enter Try.func3, Try.ntmps3
    go_wp2
    go_ret
    exact ⟨rfl, Below.refl _ _⟩
  have hb0 : decide (bm < -1099511627776) = false := by simp; omega
  by_cases b1 : 1099511627776 < bm
  · have hd : decide (1099511627776 < bm) = true := by simp; omega
    go_enter Try.func3, Try.ntmps3
    go_wp2
    go_ret
    exact ⟨rfl, Below.refl _ _⟩
  have hb1 : decide (1099511627776 < bm) = false := by simp; omega
  have s1 := sub_law am ai aa bm bi ba (by omega) (by omega) (by omega) (by omega)
  have s2 := sub_law bm bi ba am ai aa (by omega) (by omega) (by omega) (by omega)
  rw [cmpI_anti] at s2
  have hr := cmpI_range am ai aa bm bi ba
  go_enter Try.func3, Try.ntmps3
  go_wp2_with fail
  refine (zzAge_any am ai aa _).mono ?_
  rintro e w1 ⟨rfl, hw1⟩
  go_wp2_with fail
  refine (zzAge_any bm bi ba _).mono ?_
  rintro e w2 ⟨rfl, hw2⟩
  go_wp2_with fail
  refine (compare_any am ai aa bm bi ba _).mono ?_
  rintro e w3 ⟨rfl, hw3⟩
  generalize cmpI am ai aa bm bi ba = c at *
  have S1 : Hid (subB am ai aa bm bi ba = decide (c ≤ 0)) := s1
  have S2 : Hid (subB bm bi ba am ai aa = decide (-c ≤ 0)) := s2
  clear s1 s2
  go_wp2_with fail
  refine (subset_any am ai aa bm bi ba _ (by omega) (by omega) (by omega) (by omega)).mono ?_
  rintro e w4 ⟨rfl, hw4⟩
  go_wp2_with fail
  refine (subset_any bm bi ba am ai aa _ (by omega) (by omega) (by omega) (by omega)).mono ?_
  rintro e w5 ⟨rfl, hw5⟩
  rw [S1.out, S2.out]
  have hB : Below w.heap.size w w5 := hw1.trans ((hw2.trans ((hw3.trans ((hw4.trans (hw5.mono hw4.size)).mono hw3.size)).mono hw2.size)).mono hw1.size)
  clear hw1 hw2 hw3 hw4 hw5 S1 S2
  rcases hr with rfl | rfl | rfl
  all_goals
    go_wp2
    go_ret
    exact ⟨rfl, hB⟩
end Go.Proofs.Qxb6001763a

/- zzCharge, Needs, the bound; FnChargeNeedsTellsAmountsApart: the walk. -/
import Derived.Test.Qxb6001763aRows
import Derived.WalkKit
import Derived.WalkSpells
import Derived.WalkLawsBesides
import Derived.Below
namespace Go.Proofs.Qxb6001763a
open Go.RowKit
set_option linter.unusedVariables false

/-- A charge of these parts, the rest zero. -/
def chargeV (k : Int) (p : Bool) (s : ByteArray) : Value :=
  .agg #[.int .i64 k, .int .i64 0, .int .i64 0, .int .i64 0, .int .i64 0, .bool p, .string s, .pointer none, .int .i64 0, .bool false]

set_option maxHeartbeats 400000 in
theorem zzCharge_any (k : Int) (p : Bool) (s : ByteArray) (w : World) :
    Calls Try.prog 12 #[.int .i64 k, .bool p, .string s, .int .i64 0, .bool false] w fun e w' => e = .returned (chargeV k p s) ∧ Below w.heap.size w w' := by
  go_enter Try.func12, Try.ntmps12
  go_wp2
  exact bodyPost_ret (v := chargeV k p s) (by simp [results, Try.results12, go_sem, chargeV]) rfl ⟨rfl, (Below.refl _ _).alloc (Nat.le_refl _) _⟩

/-- 'the ' -/
def theB : ByteArray := ⟨#[116, 104, 101, 32]⟩
/-- 'a count of units' -/
def unitsB : ByteArray := ⟨#[97, 32, 99, 111, 117, 110, 116, 32, 111, 102, 32, 117, 110, 105, 116, 115]⟩
/-- 'an added amount of insurance' -/
def addedB : ByteArray := ⟨#[97, 110, 32, 97, 100, 100, 101, 100, 32, 97, 109, 111, 117, 110, 116, 32, 111, 102, 32, 105, 110, 115, 117, 114, 97, 110, 99, 101]⟩
/-- What a percent charge on the amount s needs. -/
def needB (s : ByteArray) : ByteArray := if s.toList.isEmpty then ByteArray.empty else theB ++ s

set_option maxHeartbeats 400000 in
theorem needs_on (s : ByteArray) (w : World) (hs : s.size ≤ 1048576) :
    Calls Try.prog 13 #[chargeV 4 false s] w fun e w' => e = .returned (.string (needB s)) ∧ Below w.heap.size w w' := by
  unfold chargeV
  cases he : s.toList.isEmpty
  · go_enter Try.func13, Try.ntmps13
    go_wp2
    go_ret
    exact ⟨by unfold needB; rw [he]; rfl, (Below.refl _ _).alloc (Nat.le_refl _) _⟩
  · go_enter Try.func13, Try.ntmps13
    go_wp2
    go_ret
    exact ⟨by unfold needB; rw [he]; rfl, (Below.refl _ _).alloc (Nat.le_refl _) _⟩

set_option maxHeartbeats 400000 in
theorem needs_unit (s : ByteArray) (w : World) : Calls Try.prog 13 #[chargeV 3 false s] w fun e w' => e = .returned (.string unitsB) ∧ Below w.heap.size w w' := by
  unfold chargeV
  go_enter Try.func13, Try.ntmps13
  go_wp2
  go_ret
  exact ⟨rfl, (Below.refl _ _).alloc (Nat.le_refl _) _⟩

set_option maxHeartbeats 400000 in
theorem needs_added (s : ByteArray) (w : World) : Calls Try.prog 13 #[chargeV 4 true s] w fun e w' => e = .returned (.string addedB) ∧ Below w.heap.size w w' := by
  unfold chargeV
  go_enter Try.func13, Try.ntmps13
  go_wp2
  go_ret
  exact ⟨rfl, (Below.refl _ _).alloc (Nat.le_refl _) _⟩

def AnyBool (e : Ending) : Prop := ∃ x, e = .returned (.bool x)
theorem anyBool (x : Bool) : AnyBool (.returned (.bool x)) := ⟨x, rfl⟩

set_option maxHeartbeats 400000 in
theorem bytes_any (a b : ByteArray) (w : World) (ha : a.size ≤ maxLen) (hb : b.size ≤ maxLen) :
    Calls Try.prog 11 #[.string a, .string b] w fun e w' => AnyBool e ∧ w' = w := by
  unfold maxLen at ha hb
  go_enter Try.func11, Try.ntmps11
  go_wp2
  all_goals (go_ret; exact ⟨anyBool _, rfl⟩)

/-! ### plain -/
theorem needB_list (s : ByteArray) : (needB s).toList = if s.toList.isEmpty then [] else [116, 104, 101, 32] ++ s.toList := by
  unfold needB
  cases h : s.toList.isEmpty
  · simp only [Bool.false_eq_true, if_false, ByteArray.toList_eq]
    rw [ByteArray.data_append]
    simp [theB]
  · simp only [if_true]
    rw [ByteArray.toList_eq]
    rfl

theorem need_same (a b : ByteArray) : ((needB a).toList == (needB b).toList) = (a.toList == b.toList) := by
  rw [needB_list, needB_list]
  cases ha : a.toList with
  | nil =>
    cases hb : b.toList with
    | nil => rfl
    | cons y r => rfl
  | cons x l =>
    cases hb : b.toList with
    | nil => rfl
    | cons y r => simp

theorem need_first (s : ByteArray) (x : UInt8) (l : List UInt8) (hx : x ≠ 116) : ((needB s).toList == x :: l) = false := by
  rw [needB_list]
  cases hs : s.toList.isEmpty
  · rw [if_neg (by simp), beq_eq_false_iff_ne]
    intro h
    simp only [List.cons_append, List.cons.injEq] at h
    exact hx h.1.symm
  · rfl

theorem units_list : unitsB.toList = 97 :: [32, 99, 111, 117, 110, 116, 32, 111, 102, 32, 117, 110, 105, 116, 115] := by rw [ByteArray.toList_eq]; rfl
theorem added_list : addedB.toList = 97 :: [110, 32, 97, 100, 100, 101, 100, 32, 97, 109, 111, 117, 110, 116, 32, 111, 102, 32, 105, 110, 115, 117, 114, 97, 110, 99, 101] := by rw [ByteArray.toList_eq]; rfl

set_option maxHeartbeats 1600000 in
theorem chargeWalk (a b : ByteArray) (ha : a.size ≤ maxLen) (hb : b.size ≤ maxLen) (w : World) :
    Calls Try.prog 6 #[.string a, .string b] w fun e w' => e = .returned (.bool true) ∧ Below w.heap.size w w' := by
  have hnot : ∀ (x : Bool) (w : World), (Op.unary .not (.bool x)).run Try.prog w = .ok (.bool (!x)) w := fun _ _ => rfl
  have ham := ha
  have hbm := hb
  unfold maxLen at ha hb
  have n1 : ((needB a).toList == unitsB.toList) = false := by rw [units_list]; exact need_first a 97 _ (by decide)
  have n2 : ((needB a).toList == addedB.toList) = false := by rw [added_list]; exact need_first a 97 _ (by decide)
  have n3 : (unitsB.toList == addedB.toList) = false := by rw [units_list, added_list]; decide
  have n4 : unitsB.toList.isEmpty = false := by rw [units_list]; rfl
  have n5 : addedB.toList.isEmpty = false := by rw [added_list]; rfl
  have hsame := need_same a b
  go_enter Try.func6, Try.ntmps6
  go_wp2_with fail
  refine (bytes_any a b _ ham hbm).mono ?_
  rintro e w1 ⟨⟨x, rfl⟩, hw⟩
  rw [hw]
  clear hw w1
  cases x
  · go_wp2
    go_ret
    exact ⟨rfl, Below.refl _ _⟩
  by_cases ha20 : (1048576 : Int) < (a.size : Int)
  · have hd : decide ((1048576 : Int) < (a.size : Int)) = true := by simp; omega
    go_wp2
    go_ret
    exact ⟨rfl, Below.refl _ _⟩
  have hda : decide ((1048576 : Int) < (a.size : Int)) = false := by simp; omega
  by_cases hb20 : (1048576 : Int) < (b.size : Int)
  · have hd : decide ((1048576 : Int) < (b.size : Int)) = true := by simp; omega
    go_wp2
    go_ret
    exact ⟨rfl, Below.refl _ _⟩
  have hdb : decide ((1048576 : Int) < (b.size : Int)) = false := by simp; omega
  by_cases hab : (1048576 : Int) < (a.size : Int) + (b.size : Int)
  · have hd : decide ((1048576 : Int) < (a.size : Int) + (b.size : Int)) = true := by simp; omega
    go_wp2
    go_ret
    exact ⟨rfl, Below.refl _ _⟩
  have hdab : decide ((1048576 : Int) < (a.size : Int) + (b.size : Int)) = false := by simp; omega
  go_wp2_with fail
  refine (zzCharge_any 4 false a _).mono ?_
  rintro e w1 ⟨rfl, hb1⟩
  go_wp2_with fail
  refine (needs_on a _ (by omega)).mono ?_
  rintro e w2 ⟨rfl, hb2⟩
  go_wp2_with fail
  refine (zzCharge_any 4 false b _).mono ?_
  rintro e w3 ⟨rfl, hb3⟩
  go_wp2_with fail
  refine (needs_on b _ (by omega)).mono ?_
  rintro e w4 ⟨rfl, hb4⟩
  have hB4 : Below w.heap.size w w4 := hb1.trans ((hb2.trans ((hb3.trans (hb4.mono hb3.size)).mono hb2.size)).mono hb1.size)
  clear hb1 hb2 hb3 hb4
  cases hab2 : (a.toList == b.toList)
  all_goals
    rw [hab2] at hsame
    go_wp2_with fail
    refine (zzCharge_any 3 false _ _).mono ?_
    rintro e w5 ⟨rfl, hb5⟩
    go_wp2_with fail
    refine (needs_unit _ _).mono ?_
    rintro e w6 ⟨rfl, hb6⟩
    go_wp2_with fail
    refine (zzCharge_any 4 true _ _).mono ?_
    rintro e w7 ⟨rfl, hb7⟩
    go_wp2_with fail
    refine (needs_added _ _).mono ?_
    rintro e w8 ⟨rfl, hb8⟩
    have hB8 : Below w.heap.size w w8 := hB4.trans ((hb5.trans ((hb6.trans ((hb7.trans (hb8.mono hb7.size)).mono hb6.size)).mono hb5.size)).mono hB4.size)
    clear hb5 hb6 hb7 hb8
    go_wp2
    go_ret
    exact ⟨rfl, hB8⟩
end Go.Proofs.Qxb6001763a

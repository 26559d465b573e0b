/- The comparisons of names: zzFold, fold, zzSame, sameName, same. -/
import Derived.Test.Qxb6001758aRows
import Derived.Test.Qxb6001758aPlain
import Derived.WalkKit
import Derived.WalkSpells
import Derived.WalkLawsBesides
import Derived.Deep.QuietTactic
import Derived.BigQuiet
namespace Go.Proofs.Qxb6001758a
open Go.RowKit
set_option linter.unusedVariables false

theorem ret_int {k : IntKind} {a b : Int} (h : a = b) : Ending.returned (.int k a) = .returned (.int k b) := by rw [h]
theorem ret_bool {a b : Bool} (h : a = b) : Ending.returned (.bool a) = .returned (.bool b) := by rw [h]

set_option maxHeartbeats 400000 in
theorem zzFold_any (d : Bool) (c : Int) (w : World) (h0 : 0 ≤ c) (h1 : c ≤ 255) :
    Calls Try.prog 24 #[.bool d, .int .u8 c] w fun e w' => e = .returned (.int .u8 (foldI d c)) ∧ w' = w := by
  have hnot : ∀ (x : Bool) (w : World), (Op.unary .not (.bool x)).run Try.prog w = .ok (.bool (!x)) w := fun _ _ => rfl
  cases d
  · by_cases h2 : 65 ≤ c
    · by_cases h3 : c ≤ 90
      · go_enter Try.func24, Try.ntmps24
        go_wp2
        go_ret
        exact ⟨ret_int (by unfold foldI; rw [if_pos ⟨rfl, h2, h3⟩]), rfl⟩
      · go_enter Try.func24, Try.ntmps24
        go_wp2
        go_ret
        exact ⟨ret_int (by unfold foldI; rw [if_neg (by omega)]), rfl⟩
    · go_enter Try.func24, Try.ntmps24
      go_wp2
      go_ret
      exact ⟨ret_int (by unfold foldI; rw [if_neg (by omega)]), rfl⟩
  · go_enter Try.func24, Try.ntmps24
    go_wp2
    go_ret
    exact ⟨ret_int (by unfold foldI; rw [if_neg (by simp)]), rfl⟩

set_option maxHeartbeats 400000 in
theorem fold_any (d : Bool) (c : Int) (w : World) (h0 : 0 ≤ c) (h1 : c ≤ 255) :
    Calls Try.prog 33 #[.int .u8 (rl d), .int .u8 c] w fun e w' => e = .returned (.int .u8 (foldI d c)) ∧ w' = w := by
  cases d
  · show Calls Try.prog 33 #[.int .u8 0, .int .u8 c] w _
    by_cases h2 : 65 ≤ c
    · by_cases h3 : c ≤ 90
      · go_enter Try.func33, Try.ntmps33
        go_wp2
        go_ret
        exact ⟨ret_int (by unfold foldI; rw [if_pos ⟨rfl, h2, h3⟩]; omega), rfl⟩
      · go_enter Try.func33, Try.ntmps33
        go_wp2
        go_ret
        exact ⟨ret_int (by unfold foldI; rw [if_neg (by omega)]), rfl⟩
    · go_enter Try.func33, Try.ntmps33
      go_wp2
      go_ret
      exact ⟨ret_int (by unfold foldI; rw [if_neg (by omega)]), rfl⟩
  · show Calls Try.prog 33 #[.int .u8 1, .int .u8 c] w _
    go_enter Try.func33, Try.ntmps33
    go_wp2
    go_ret
    exact ⟨ret_int (by unfold foldI; rw [if_neg (by simp)]), rfl⟩

theorem drewN_add (w : World) (m n : Nat) : ∃ k, (w.drewN m).drewN n = w.drewN k := ⟨m + n, by rw [World.drewN_drewN]⟩

theorem drews {w wr : World} (h : ∃ n, wr = w.drewN n) (m : Nat) : ∃ n, wr.drewN m = w.drewN n := by
  obtain ⟨n, rfl⟩ := h
  exact drewN_add w n m

theorem agree_step {d : Bool} {a b : ByteArray} {k : Nat} (ha : k < a.size) (hb : k < b.size) (h : foldI d (a[k].toNat : Int) = foldI d (b[k].toNat : Int))
    (hall : Hid (∀ j (hja : j < a.size) (hjb : j < b.size), j < k → foldI d (a[j].toNat : Int) = foldI d (b[j].toNat : Int))) :
    Hid (∀ j (hja : j < a.size) (hjb : j < b.size), j < k + 1 → foldI d (a[j].toNat : Int) = foldI d (b[j].toNat : Int)) := by
  intro j hja hjb hj
  by_cases e : j = k
  · subst e; exact h
  · exact hall.out j hja hjb (by omega)

theorem byte_range (s : ByteArray) (k : Nat) (h : k < s.size) : (0 : Int) ≤ (s[k].toNat : Int) ∧ (s[k].toNat : Int) ≤ 255 := by
  have := s[k].toNat_lt
  omega

theorem zzFold_b (d : Bool) (u : UInt8) (w : World) :
    Calls Try.prog 24 #[.bool d, .int .u8 (u.toNat : Int)] w fun e w' => e = .returned (.int .u8 (foldI d (u.toNat : Int))) ∧ w' = w :=
  zzFold_any d _ w (by omega) (by have := u.toNat_lt; omega)
theorem fold_b (d : Bool) (u : UInt8) (w : World) :
    Calls Try.prog 33 #[.int .u8 (rl d), .int .u8 (u.toNat : Int)] w fun e w' => e = .returned (.int .u8 (foldI d (u.toNat : Int))) ∧ w' = w :=
  fold_any d _ w (by omega) (by have := u.toNat_lt; omega)

set_option maxHeartbeats 400000 in
theorem zzSame_any (d : Bool) (a b : ByteArray) (w : World) (ha : a.size ≤ maxLen) (hb : b.size ≤ maxLen) :
    Calls Try.prog 14 #[.bool d, .string a, .string b] w fun e w' => e = .returned (.bool (sameB d a b)) ∧ ∃ n, w' = w.drewN n := by
  unfold maxLen at ha hb
  by_cases hs : a.size = b.size
  · have hne : ((a.size : Int) != (b.size : Int)) = false := by simp [hs]
    have hsl : a.size ≤ b.size := by omega
    have HS : Hid (a.size = b.size) := hs
    clear hs
    go_enter Try.func14, Try.ntmps14
    go_wp2
    go_loopw [7] (fun i wr => ∃ k : Nat, k ≤ a.size ∧ i = .int .i64 k ∧ Hid (∃ n, wr = w.drewN n) ∧ Hid (∀ j (hja : j < a.size) (hjb : j < b.size), j < k → foldI d (a[j].toNat : Int) = foldI d (b[j].toNat : Int))) (fun i _ => a.size - (intOf i).toNat)
    case atStart => exact ⟨0, Nat.zero_le _, rfl, ⟨0, rfl⟩, fun j _ _ h => by omega⟩
    case round =>
      obtain ⟨k, hk, rfl, HW, hall⟩ := hrel
      by_cases hlt : k < a.size
      · have hltb : k < b.size := by omega
        have ra := byte_range a k hlt
        have rb := byte_range b k hltb
        go_wp2
        go_quiet ((go_at_call 24; exact Calls.quiet_of_same (zzFold_b _ _ _)))
        go_wp2
        · have hd : (foldI d (a[k].toNat : Int) != foldI d (b[k].toNat : Int)) = true := by assumption
          go_ret
          exact ⟨ret_bool (sameB_differ k hlt hltb (by simpa using hd)).symm, drews HW.out nq⟩
        · have hd : (foldI d (a[k].toNat : Int) != foldI d (b[k].toNat : Int)) = false := by assumption
          go_roundw
          case rel => exact ⟨k + 1, by omega, by go_num, drews HW.out nq, agree_step hlt hltb (by simpa using hd) hall⟩
          case measure => simp [intOf]; omega
      · go_wp2
        go_ret
        exact ⟨ret_bool (sameB_agree HS.out (fun j hj hj' => hall.out j hj hj' (by omega))).symm, HW.out⟩
  · have hne : ((a.size : Int) != (b.size : Int)) = true := by simp; omega
    have HS : Hid (¬ a.size = b.size) := hs
    clear hs
    go_enter Try.func14, Try.ntmps14
    go_wp2
    go_ret
    exact ⟨ret_bool (sameB_size HS.out).symm, 0, rfl⟩
set_option maxHeartbeats 400000 in
theorem sameName_any (d : Bool) (a b : ByteArray) (w : World) (ha : a.size ≤ maxLen) (hb : b.size ≤ maxLen) :
    Calls Try.prog 32 #[.int .u8 (rl d), .string a, .string b] w fun e w' => e = .returned (.bool (sameB d a b)) ∧ ∃ n, w' = w.drewN n := by
  unfold maxLen at ha hb
  by_cases hs : a.size = b.size
  · have hne : ((a.size : Int) != (b.size : Int)) = false := by simp [hs]
    have hsl : a.size ≤ b.size := by omega
    have HS : Hid (a.size = b.size) := hs
    clear hs
    go_enter Try.func32, Try.ntmps32
    go_wp2
    go_loopw [15] (fun i wr => ∃ k : Nat, k ≤ a.size ∧ i = .int .i64 k ∧ Hid (∃ n, wr = w.drewN n) ∧ Hid (∀ j (hja : j < a.size) (hjb : j < b.size), j < k → foldI d (a[j].toNat : Int) = foldI d (b[j].toNat : Int))) (fun i _ => a.size - (intOf i).toNat)
    case atStart => exact ⟨0, Nat.zero_le _, rfl, ⟨0, rfl⟩, fun j _ _ h => by omega⟩
    case round =>
      obtain ⟨k, hk, rfl, HW, hall⟩ := hrel
      by_cases hlt : k < a.size
      · have hltb : k < b.size := by omega
        have ra := byte_range a k hlt
        have rb := byte_range b k hltb
        go_wp2
        go_quiet ((go_at_call 33; exact Calls.quiet_of_same (fold_b _ _ _)))
        go_wp2
        · have hd : (foldI d (a[k].toNat : Int) != foldI d (b[k].toNat : Int)) = true := by assumption
          go_ret
          exact ⟨ret_bool (sameB_differ k hlt hltb (by simpa using hd)).symm, drews HW.out nq⟩
        · have hd : (foldI d (a[k].toNat : Int) != foldI d (b[k].toNat : Int)) = false := by assumption
          go_roundw
          case rel => exact ⟨k + 1, by omega, by go_num, drews HW.out nq, agree_step hlt hltb (by simpa using hd) hall⟩
          case measure => simp [intOf]; omega
      · go_wp2
        go_ret
        exact ⟨ret_bool (sameB_agree HS.out (fun j hj hj' => hall.out j hj hj' (by omega))).symm, HW.out⟩
  · have hne : ((a.size : Int) != (b.size : Int)) = true := by simp; omega
    have HS : Hid (¬ a.size = b.size) := hs
    clear hs
    go_enter Try.func32, Try.ntmps32
    go_wp2
    go_ret
    exact ⟨ret_bool (sameB_size HS.out).symm, 0, rfl⟩

set_option maxHeartbeats 400000 in
theorem same_any (d : Bool) (a b : ByteArray) (w : World) (ha : a.size ≤ maxLen) (hb : b.size ≤ maxLen) :
    Calls Try.prog 29 #[.int .u8 (rl d), .string a, .string b] w fun e w' => e = .returned (.bool (sameB d a b)) ∧ ∃ n, w' = w.drewN n := by
  go_enter Try.func29, Try.ntmps29
  go_wp2_with (go_at_call 32; refine (sameName_any _ _ _ _ ha hb).mono ?_; rintro e w' ⟨rfl, hw⟩)
  go_ret
  exact ⟨rfl, hw⟩
end Go.Proofs.Qxb6001758a

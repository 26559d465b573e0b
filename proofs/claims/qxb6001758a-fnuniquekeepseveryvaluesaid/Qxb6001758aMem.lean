/- What a slice of strings, of bools, of fields holds in memory; the copies zzCopyStrings, zzCopyBools; zzRemoved; zzBytes. -/
import Derived.Test.Qxb6001758aSame
import Derived.Deep.OwnRows
import Derived.Lib.SliceRun
namespace Go.Proofs.Qxb6001758a
open Go.RowKit
set_option linter.unusedVariables false

/-- The slice at 'a' holds n strings S. -/
def Strs (w : World) (a : Option Addr) (n : Nat) (S : Nat → ByteArray) : Prop :=
  ∀ i, i < n → ∃ b off, a = some ⟨b, off, none⟩ ∧ w.cell? ⟨b, off + i, none⟩ = some (.string (S i)) ∧ (S i).size ≤ maxLen

/-- The slice at 'a' holds n bools R. -/
def Bls (w : World) (a : Option Addr) (n : Nat) (R : Nat → Bool) : Prop :=
  ∀ i, i < n → ∃ b off, a = some ⟨b, off, none⟩ ∧ w.cell? ⟨b, off + i, none⟩ = some (.bool (R i))

theorem Strs.below {w w' : World} {a : Option Addr} {n : Nat} {S : Nat → ByteArray} {B : Nat} (h : Strs w a n S) (hB : w.heap.size ≤ B) (hb : Below B w w') : Strs w' a n S := by
  intro i hi
  obtain ⟨b, off, e, hc, hs⟩ := h i hi
  have := World.block_lt_of_cell? _ _ hc
  exact ⟨b, off, e, (hb.cell (p := ⟨b, off + i, none⟩) (by simp at this ⊢; omega)).trans hc, hs⟩

theorem Bls.below {w w' : World} {a : Option Addr} {n : Nat} {R : Nat → Bool} {B : Nat} (h : Bls w a n R) (hB : w.heap.size ≤ B) (hb : Below B w w') : Bls w' a n R := by
  intro i hi
  obtain ⟨b, off, e, hc⟩ := h i hi
  have := World.block_lt_of_cell? _ _ hc
  exact ⟨b, off, e, (hb.cell (p := ⟨b, off + i, none⟩) (by simp at this ⊢; omega)).trans hc⟩

theorem Strs.ofRow {w : World} {b : Nat} {t : TypeId} {n : Nat} {S : Nat → ByteArray} (h : w.rowIs b t n (fun i => .string (S i))) (hs : ∀ i, i < n → (S i).size ≤ maxLen) : Strs w (some ⟨b, 0, none⟩) n S :=
  fun i hi => ⟨b, 0, rfl, by simpa using h.cell hi, hs i hi⟩

theorem Bls.ofRow {w : World} {b : Nat} {t : TypeId} {n : Nat} {R : Nat → Bool} (h : w.rowIs b t n (fun i => .bool (R i))) : Bls w (some ⟨b, 0, none⟩) n R :=
  fun i hi => ⟨b, 0, rfl, by simpa using h.cell hi⟩

theorem Try.info9 : (Try.prog.info? 9).map (fun i => (i.zero, i.size, i.bytes)) = some (some (.string ByteArray.empty), 1, 16) := by kernel_rfl
theorem Try.info4 : (Try.prog.info? 4).map (fun i => (i.zero, i.size, i.bytes)) = some (some (.bool false), 1, 1) := by kernel_rfl

theorem row_step {w1 : World} {t : TypeId} {n k : Nat} {f : Nat → Value} {B : Nat} {z : Value} (h : w1.rowIs B t n (fun i => if i < k then f i else z)) :
    (w1.setCell ⟨B, k, none⟩ (f k)).rowIs B t n (fun i => if i < k + 1 then f i else z) :=
  (h.set k (f k)).congr (fun i hi => by
    by_cases e : i = k
    · subst e; simp
    · by_cases l : i < k
      · simp [e, l, show i < k + 1 by omega]
      · simp [e, l, show ¬ i < k + 1 by omega])

set_option maxHeartbeats 400000 in
theorem copyStrs (a : Option Addr) (n c : Nat) (S : Nat → ByteArray) (w : World) (h : Strs w a n S) (hn : n ≤ 1048576) :
    Calls Try.prog 10 #[.slice a n c] w fun e w' => ∃ a' c', e = .returned (.slice a' n c') ∧ Strs w' a' n S ∧ Below w.heap.size w w' := by
  have q22 : ∀ (w : World) (a : Option Addr) (n c n' c' : Nat), (binOp .eql 22 (.slice a n c) (.slice none n' c')).run Try.prog w = .ok (.bool a.isNone) w := fun w a n c n' c' => Lib.run_eql_slice_nil w _ _ a n c n' c' Try.underlying22
  cases a with
  | none =>
    have hn0 : n = 0 := by
      rcases Nat.eq_zero_or_pos n with h0 | h0
      · exact h0
      · obtain ⟨b, off, e, _⟩ := h 0 h0; cases e
    subst hn0
    go_enter Try.func10, Try.ntmps10
    go_wp2
    go_ret
    exact ⟨none, 0, rfl, fun i hi => by omega, Below.refl _ _⟩
  | some ad =>
    have hmk := run_make_row' (P := Try.prog) 22 9 (.string ByteArray.empty) 16 Try.underlying22 Try.info9 rfl .i64 .i64 n (by omega) (by omega)
    go_enter Try.func10, Try.ntmps10
    go_wp2
    clear hmk q22
    go_loopw [4] (fun i wr => ∃ k : Nat, k ≤ n ∧ i = .int .i64 k ∧ Below w.heap.size w wr ∧ wr.rowIs w.heap.size 9 n (fun i => if i < k then .string (S i) else .string ByteArray.empty)) (fun i _ => n - (intOf i).toNat)
    case atStart => exact ⟨0, Nat.zero_le _, rfl, (Below.refl _ _).alloc (Nat.le_refl _) _, (World.rowIs_made _ _ _ _).congr (fun i _ => by simp)⟩
    case round =>
      obtain ⟨k, hk, rfl, hb, hrow⟩ := hrel
      by_cases hlt : k < n
      · obtain ⟨b, off, e, hc, hs⟩ := (h.below (Nat.le_refl _) hb) k hlt
        simp only [Option.some.injEq] at e
        subst e
        have hcr := hrow.cell hlt
        have hfr := hrow.frozen k
        go_wp2
        go_roundw
        case rel => exact ⟨k + 1, by omega, by go_num, hb.setCell (Nat.le_refl _) _, row_step (f := fun i => .string (S i)) hrow⟩
        case measure => simp [intOf]; omega
      · go_wp2
        go_ret
        have ek : k = n := by omega
        subst ek
        exact ⟨_, _, rfl, Strs.ofRow (hrow.congr (fun i hi => by simp [hi])) (fun i hi => (h i hi).choose_spec.choose_spec.2.2), hb⟩
set_option maxHeartbeats 400000 in
theorem copyBls (a : Option Addr) (n c : Nat) (R : Nat → Bool) (w : World) (h : Bls w a n R) (hn : n ≤ 1048576) :
    Calls Try.prog 19 #[.slice a n c] w fun e w' => ∃ a' c', e = .returned (.slice a' n c') ∧ Bls w' a' n R ∧ Below w.heap.size w w' := by
  have q36 : ∀ (w : World) (a : Option Addr) (n c n' c' : Nat), (binOp .eql 36 (.slice a n c) (.slice none n' c')).run Try.prog w = .ok (.bool a.isNone) w := fun w a n c n' c' => Lib.run_eql_slice_nil w _ _ a n c n' c' Try.underlying36
  cases a with
  | none =>
    have hn0 : n = 0 := by
      rcases Nat.eq_zero_or_pos n with h0 | h0
      · exact h0
      · obtain ⟨b, off, e, _⟩ := h 0 h0; cases e
    subst hn0
    go_enter Try.func19, Try.ntmps19
    go_wp2
    go_ret
    exact ⟨none, 0, rfl, fun i hi => by omega, Below.refl _ _⟩
  | some ad =>
    have hmk := run_make_row' (P := Try.prog) 36 4 (.bool false) 1 Try.underlying36 Try.info4 rfl .i64 .i64 n (by omega) (by omega)
    go_enter Try.func19, Try.ntmps19
    go_wp2
    clear hmk q36
    go_loopw [4] (fun i wr => ∃ k : Nat, k ≤ n ∧ i = .int .i64 k ∧ Below w.heap.size w wr ∧ wr.rowIs w.heap.size 4 n (fun i => if i < k then .bool (R i) else .bool false)) (fun i _ => n - (intOf i).toNat)
    case atStart => exact ⟨0, Nat.zero_le _, rfl, (Below.refl _ _).alloc (Nat.le_refl _) _, (World.rowIs_made _ _ _ _).congr (fun i _ => by simp)⟩
    case round =>
      obtain ⟨k, hk, rfl, hb, hrow⟩ := hrel
      by_cases hlt : k < n
      · obtain ⟨b, off, e, hc⟩ := (h.below (Nat.le_refl _) hb) k hlt
        simp only [Option.some.injEq] at e
        subst e
        have hcr := hrow.cell hlt
        have hfr := hrow.frozen k
        go_wp2
        go_roundw
        case rel => exact ⟨k + 1, by omega, by go_num, hb.setCell (Nat.le_refl _) _, row_step (f := fun i => .bool (R i)) hrow⟩
        case measure => simp [intOf]; omega
      · go_wp2
        go_ret
        have ek : k = n := by omega
        subst ek
        exact ⟨_, _, rfl, Bls.ofRow (hrow.congr (fun i hi => by simp [hi])), hb⟩

set_option maxHeartbeats 400000 in
/-- 'k < len(removed) && removed[k]' -/
theorem removed_any (a : Option Addr) (n c : Nat) (R : Nat → Bool) (k : Nat) (w : World) (h : Bls w a n R) (hn : n ≤ 1048576) :
    Calls Try.prog 22 #[.slice a n c, .int .i64 k] w fun e w' => e = .returned (.bool (decide (k < n) && R k)) ∧ w' = w := by
  by_cases hlt : k < n
  · obtain ⟨b, off, rfl, hc⟩ := h k hlt
    have hd : decide ((k : Int) < (n : Int)) = true := by simp; omega
    go_enter Try.func22, Try.ntmps22
    go_wp2
    go_ret
    exact ⟨by simp [hlt], rfl⟩
  · have hd : decide ((k : Int) < (n : Int)) = false := by simp; omega
    go_enter Try.func22, Try.ntmps22
    go_wp2
    go_ret
    exact ⟨by simp [hlt], rfl⟩

set_option maxHeartbeats 400000 in
theorem zzBytes_any (a : Option Addr) (n c : Nat) (S : Nat → ByteArray) (w : World) (h : Strs w a n S) (hn : n ≤ maxLen) :
    Calls Try.prog 9 #[.slice a n c] w fun e w' => (∃ x, e = .returned (.int .i64 x)) ∧ w' = w := by
  unfold maxLen at hn
  by_cases h20 : n ≤ 1048576
  · go_enter Try.func9, Try.ntmps9
    go_wp2
    go_loop [3, 4] (fun t i => ∃ (k : Nat) (x : Int), k ≤ n ∧ i = .int .i64 k ∧ t = .int .i64 x) (fun _ i => n - (intOf i).toNat)
    case atStart => exact ⟨0, _, Nat.zero_le _, rfl, rfl⟩
    case round =>
      obtain ⟨k, x, hk, rfl, rfl⟩ := hrel
      by_cases hlt : k < n
      · obtain ⟨b, off, rfl, hc, hs⟩ := h k hlt
        unfold maxLen at hs
        go_wp2
        all_goals first | (go_ret; exact ⟨⟨_, rfl⟩, rfl⟩) | skip
        go_round
        case rel => exact ⟨k + 1, _, by omega, by go_num, rfl⟩
        case measure => simp [intOf]; omega
      · go_wp2
        go_ret
        exact ⟨⟨_, rfl⟩, rfl⟩
  · go_enter Try.func9, Try.ntmps9
    go_wp2
    go_ret
    exact ⟨⟨_, rfl⟩, rfl⟩

def AnyBool (e : Ending) : Prop := ∃ x, e = .returned (.bool x)
theorem anyBool (x : Bool) : AnyBool (.returned (.bool x)) := ⟨x, rfl⟩

set_option maxHeartbeats 800000 in
theorem zzBytesPlace_any (a : Option Addr) (n c : Nat) (S : Nat → ByteArray) (a1 : Option Addr) (n1 c1 : Nat) (j : Int) (d : Bool) (w : World) (h : Strs w a n S) (hn : n ≤ maxLen) (hn1 : n1 ≤ maxLen) :
    Calls Try.prog 21 #[.slice a n c, .slice a1 n1 c1, .int .i64 j, .bool d] w fun e w' => AnyBool e ∧ w' = w := by
  unfold maxLen at hn hn1
  by_cases h20 : n ≤ 1048576
  · have hd : decide ((1048576 : Int) < (n : Int)) = false := by simp; omega
    go_enter Try.func21, Try.ntmps21
    go_wp2
    go_loop [9, 10] (fun t i => ∃ (k : Nat) (x : Int), k ≤ n ∧ i = .int .i64 k ∧ t = .int .i64 x) (fun _ i => n - (intOf i).toNat)
    case atStart => exact ⟨0, _, Nat.zero_le _, rfl, rfl⟩
    case round =>
      obtain ⟨k, x, hk, rfl, rfl⟩ := hrel
      by_cases hlt : k < n
      · obtain ⟨b, off, rfl, hc, hs⟩ := h k hlt
        unfold maxLen at hs
        go_wp2
        all_goals first | (go_ret; exact ⟨anyBool _, rfl⟩) | skip
        go_round
        case rel => exact ⟨k + 1, _, by omega, by go_num, rfl⟩
        case measure => simp [intOf]; omega
      · go_wp2
        all_goals (go_ret; exact ⟨anyBool _, rfl⟩)
  · go_enter Try.func21, Try.ntmps21
    go_wp2
    go_ret
    exact ⟨anyBool _, rfl⟩

set_option maxHeartbeats 1600000 in
theorem zzBytesU8_any (a : Option Addr) (n c : Nat) (S : Nat → ByteArray) (a1 : Option Addr) (n1 c1 : Nat) (V : Nat → ByteArray) (d : Bool) (w : World) (h : Strs w a n S) (hV : Strs w a1 n1 V) (hn : n ≤ maxLen) (hn1 : n1 ≤ maxLen) :
    Calls Try.prog 8 #[.slice a n c, .slice a1 n1 c1, .bool d] w fun e w' => AnyBool e ∧ w' = w := by
  unfold maxLen at hn hn1
  by_cases h20 : n ≤ 1048576
  · have hd : decide ((1048576 : Int) < (n : Int)) = false := by simp; omega
    go_enter Try.func8, Try.ntmps8
    go_wp2
    go_loop [7, 8] (fun t i => ∃ (k : Nat) (x : Int), k ≤ n ∧ i = .int .i64 k ∧ t = .int .i64 x) (fun _ i => n - (intOf i).toNat)
    case atStart => exact ⟨0, _, Nat.zero_le _, rfl, rfl⟩
    case round =>
      obtain ⟨k, x, hk, rfl, rfl⟩ := hrel
      by_cases hlt : k < n
      · obtain ⟨b, off, rfl, hc, hs⟩ := h k hlt
        unfold maxLen at hs
        go_wp2
        all_goals first | (go_ret; exact ⟨anyBool _, rfl⟩) | skip
        go_round
        case rel => exact ⟨k + 1, _, by omega, by go_num, rfl⟩
        case measure => simp [intOf]; omega
      · by_cases h21 : n1 ≤ 1048576
        · have hd1 : decide ((1048576 : Int) < (n1 : Int)) = false := by simp; omega
          by_cases hx : (1048576 : Int) < wrap64 (x + n1)
          · go_wp2
            go_ret
            exact ⟨anyBool _, rfl⟩
          · have hdx : decide ((1048576 : Int) < wrap64 (x + n1)) = false := by simp; omega
            clear hx
            go_wp2
            go_loop [7, 9] (fun t i => ∃ (k : Nat) (x : Int), k ≤ n1 ∧ i = .int .i64 k ∧ t = .int .i64 x) (fun _ i => n1 - (intOf i).toNat)
            case atStart => exact ⟨0, _, Nat.zero_le _, rfl, rfl⟩
            case round =>
              obtain ⟨k', x', hk', rfl, rfl⟩ := hrel
              by_cases hlt' : k' < n1
              · obtain ⟨b, off, rfl, hc, hs⟩ := hV k' hlt'
                unfold maxLen at hs
                go_wp2
                all_goals first | (go_ret; exact ⟨anyBool _, rfl⟩) | skip
                go_round
                case rel => exact ⟨k' + 1, _, by omega, by go_num, rfl⟩
                case measure => simp [intOf]; omega
              · go_wp2
                go_ret
                exact ⟨anyBool _, rfl⟩
        · go_wp2
          go_ret
          exact ⟨anyBool _, rfl⟩
  · go_enter Try.func8, Try.ntmps8
    go_wp2
    go_ret
    exact ⟨anyBool _, rfl⟩

set_option maxHeartbeats 1600000 in
theorem zzBytesU16_any (a : Option Addr) (n c : Nat) (S : Nat → ByteArray) (a1 : Option Addr) (n1 c1 : Nat) (V : Nat → ByteArray) (d : Bool) (w : World) (h : Strs w a n S) (hV : Strs w a1 n1 V) (hn : n ≤ maxLen) (hn1 : n1 ≤ maxLen) :
    Calls Try.prog 16 #[.slice a n c, .slice a1 n1 c1, .bool d] w fun e w' => AnyBool e ∧ w' = w := by
  unfold maxLen at hn hn1
  by_cases h20 : n ≤ 1048576
  · have hd : decide ((1048576 : Int) < (n : Int)) = false := by simp; omega
    go_enter Try.func16, Try.ntmps16
    go_wp2
    go_loop [7, 8] (fun t i => ∃ (k : Nat) (x : Int), k ≤ n ∧ i = .int .i64 k ∧ t = .int .i64 x) (fun _ i => n - (intOf i).toNat)
    case atStart => exact ⟨0, _, Nat.zero_le _, rfl, rfl⟩
    case round =>
      obtain ⟨k, x, hk, rfl, rfl⟩ := hrel
      by_cases hlt : k < n
      · obtain ⟨b, off, rfl, hc, hs⟩ := h k hlt
        unfold maxLen at hs
        go_wp2
        all_goals first | (go_ret; exact ⟨anyBool _, rfl⟩) | skip
        go_round
        case rel => exact ⟨k + 1, _, by omega, by go_num, rfl⟩
        case measure => simp [intOf]; omega
      · by_cases h21 : n1 ≤ 1048576
        · have hd1 : decide ((1048576 : Int) < (n1 : Int)) = false := by simp; omega
          by_cases hx : (1048576 : Int) < wrap64 (x + n1)
          · go_wp2
            go_ret
            exact ⟨anyBool _, rfl⟩
          · have hdx : decide ((1048576 : Int) < wrap64 (x + n1)) = false := by simp; omega
            clear hx
            go_wp2
            go_loop [7, 9] (fun t i => ∃ (k : Nat) (x : Int), k ≤ n1 ∧ i = .int .i64 k ∧ t = .int .i64 x) (fun _ i => n1 - (intOf i).toNat)
            case atStart => exact ⟨0, _, Nat.zero_le _, rfl, rfl⟩
            case round =>
              obtain ⟨k', x', hk', rfl, rfl⟩ := hrel
              by_cases hlt' : k' < n1
              · obtain ⟨b, off, rfl, hc, hs⟩ := hV k' hlt'
                unfold maxLen at hs
                go_wp2
                all_goals first | (go_ret; exact ⟨anyBool _, rfl⟩) | skip
                go_round
                case rel => exact ⟨k' + 1, _, by omega, by go_num, rfl⟩
                case measure => simp [intOf]; omega
              · go_wp2
                go_ret
                exact ⟨anyBool _, rfl⟩
        · go_wp2
          go_ret
          exact ⟨anyBool _, rfl⟩
  · go_enter Try.func16, Try.ntmps16
    go_wp2
    go_ret
    exact ⟨anyBool _, rfl⟩
end Go.Proofs.Qxb6001758a

/- FnNextScriptBounds: the walk. -/
import Derived.Test.Qxb6600758aRows
import Derived.WalkKit
import Derived.WalkSpells
import Derived.WalkLawsBesides
import Derived.Below
import Derived.Deep.OwnRows
namespace Go.Proofs.Qxb6600758a
open Go.RowKit
set_option linter.unusedVariables false

/-- The slice at 'a' holds n ints Z. -/
def Ints (w : World) (a : Option Addr) (n : Nat) (Z : Nat → Int) : Prop :=
  ∀ i, i < n → ∃ b off, a = some ⟨b, off, none⟩ ∧ w.cell? ⟨b, off + i, none⟩ = some (.int .i64 (Z i)) ∧ -9223372036854775808 ≤ Z i ∧ Z i ≤ 9223372036854775807

theorem Ints.below {w w' : World} {a : Option Addr} {n : Nat} {Z : Nat → Int} (h : Ints w a n Z) (hb : Below w.heap.size w w') : Ints w' a n Z := by
  intro i hi
  obtain ⟨b, off, e, hc, hs⟩ := h i hi
  have := World.block_lt_of_cell? _ _ hc
  exact ⟨b, off, e, (hb.cell (p := ⟨b, off + i, none⟩) this).trans hc, hs⟩

theorem Ints.ofRow {w : World} {b : Nat} {t : TypeId} {n : Nat} {Z : Nat → Int} (h : w.rowIs b t n (fun i => .int .i64 (Z i))) (hs : ∀ i, i < n → -9223372036854775808 ≤ Z i ∧ Z i ≤ 9223372036854775807) : Ints w (some ⟨b, 0, none⟩) n Z :=
  fun i hi => ⟨b, 0, rfl, by simpa using h.cell hi, hs i hi⟩

theorem row_step {w1 : World} {t : TypeId} {n k : Nat} {f : Nat → Value} {B : Nat} {z : Value} (h : w1.rowIs B t n (fun i => if i < k then f i else z)) :
    (w1.setCell ⟨B, k, none⟩ (f k)).rowIs B t n (fun i => if i < k + 1 then f i else z) :=
  (h.set k (f k)).congr (fun i hi => by
    by_cases e : i = k
    · subst e; simp
    · by_cases l : i < k
      · simp [e, l, show i < k + 1 by omega]
      · simp [e, l, show ¬ i < k + 1 by omega])

theorem Try.info3 : (Try.prog.info? 3).map (fun i => (i.zero, i.size, i.bytes)) = some (some (.int .i64 0), 1, 8) := by kernel_rfl

def AnyBool (e : Ending) : Prop := ∃ x, e = .returned (.bool x)
theorem anyBool (x : Bool) : AnyBool (.returned (.bool x)) := ⟨x, rfl⟩

set_option maxHeartbeats 400000 in
theorem bytes_any (n : Int) (a : Option Addr) (l c : Nat) (w : World) (hl : l ≤ maxLen) :
    Calls Try.prog 7 #[.int .i64 n, .slice a l c] w fun e w' => AnyBool e ∧ w' = w := by
  unfold maxLen at hl
  go_enter Try.func7, Try.ntmps7
  go_wp2
  all_goals (go_ret; exact ⟨anyBool _, rfl⟩)

set_option maxRecDepth 100000 in
set_option maxHeartbeats 3200000 in
/-- The second half: the readings lie at a. -/
theorem scriptWalk (n : Int) (a : Option Addr) (l c : Nat) (Z : Nat → Int) (w : World) (h : Ints w a l Z) (hl : l ≤ maxLen) (n0 : -9223372036854775808 ≤ n) (n1 : n ≤ 9223372036854775807) :
    Calls Try.prog 5 #[.int .i64 n, .slice a l c] w fun e w' => e = .returned (.bool true) ∧ Below w.heap.size w w' := by
  have hnot : ∀ (x : Bool) (w : World), (Op.unary .not (.bool x)).run Try.prog w = .ok (.bool (!x)) w := fun _ _ => rfl
  have q27 : ∀ (w : World) (a : Option Addr) (n c : Nat), (binOp .neq 27 (.slice a n c) (.slice none 0 0)).run Try.prog w = .ok (.bool a.isSome) w := fun w a n c => by
    have := run_neq_slice_nil_any (P := Try.prog) w 27 3 a n c 0 0 Try.underlying27
    simpa using this
  have hlm := hl
  unfold maxLen at hl
  go_enter Try.func5, Try.ntmps5
  go_wp2_with fail
  refine (bytes_any _ _ _ _ _ hlm).mono ?_
  rintro e w1 ⟨⟨x, rfl⟩, hw⟩
  rw [hw]
  clear hw w1
  cases x
  · go_wp2
    go_ret
    exact ⟨rfl, Below.refl _ _⟩
  by_cases h16 : 65536 < l
  · go_wp2
    go_ret
    exact ⟨rfl, Below.refl _ _⟩
  have hd16 : decide ((65536 : Int) < (l : Int)) = false := by simp; omega
  cases a with
  | none =>
    have hl0 : l = 0 := by
      rcases Nat.eq_zero_or_pos l with h0 | h0
      · exact h0
      · obtain ⟨b, off, e, _⟩ := h 0 h0; cases e
    subst hl0
    go_wp2
    go_loop [10] (fun i => i = .int .i64 0) (fun _ => 0)
    case atStart => exact rfl
    case round =>
      obtain rfl := hrel
      go_wp2
      go_ret
      exact ⟨rfl, Below.refl _ _⟩
  | some ad =>
    have hmk := run_make_row' (P := Try.prog) 27 3 (.int .i64 0) 8 Try.underlying27 Try.info3 rfl .i64 .i64 l (by omega) (by omega)
    go_wp2
    clear hmk q27
    go_loopw [6] (fun i wr => ∃ k : Nat, k ≤ l ∧ i = .int .i64 k ∧ Below w.heap.size w wr ∧ wr.rowIs w.heap.size 3 l (fun i => if i < k then .int .i64 (Z i) else .int .i64 0)) (fun i _ => l - (intOf i).toNat)
    case atStart => exact ⟨0, Nat.zero_le _, rfl, (Below.refl _ _).alloc (Nat.le_refl _) _, (World.rowIs_made _ _ _ _).congr (fun i _ => by simp)⟩
    case round =>
      obtain ⟨k, hk, rfl, hb, hrow⟩ := hrel
      by_cases hlt : k < l
      · obtain ⟨b, off, e, hc, hs⟩ := (h.below hb) k hlt
        simp only [Option.some.injEq] at e
        subst e
        have hcr := hrow.cell hlt
        have hfr := hrow.frozen k
        go_wp2
        go_roundw
        case rel => exact ⟨k + 1, by omega, by go_num, hb.setCell (Nat.le_refl _) _, row_step (f := fun i => .int .i64 (Z i)) hrow⟩
        case measure => simp [intOf]; omega
      · obtain rfl : l = k := by omega
        have hZ : ∀ i, i < l → -9223372036854775808 ≤ Z i ∧ Z i ≤ 9223372036854775807 := fun i hi => (h i hi).choose_spec.choose_spec.2.2
        have hrw : wr.rowIs w.heap.size 3 l (fun i => .int .i64 (Z i)) := hrow.congr (fun i hi => by simp [hi])
        have HR : Hid (wr.rowIs w.heap.size 3 l (fun i => .int .i64 (Z i))) := hrw
        have HZ : Hid _ := hZ
        clear hrow hrw hZ
        go_wp2
        go_loop [7, 8, 9, 10] (fun x y c i => ∃ (k : Nat) (cx fy cl : Int), k ≤ l ∧ i = .int .i64 k ∧ x = .int .i64 cx ∧ y = .int .i64 fy ∧ c = .int .i64 cl ∧ -9223372036854775808 ≤ cx ∧ cx ≤ 9223372036854775807 ∧ 0 ≤ fy ∧ fy ≤ 9 ∧ -1 ≤ cl ∧ cl + 1 + fy ≤ k) (fun _ _ _ i => l - (intOf i).toNat)
        case atStart => exact ⟨0, n, 0, -1, Nat.zero_le _, rfl, rfl, rfl, rfl, n0, n1, by omega, by omega, by omega, by omega⟩
        case round =>
          obtain ⟨k, cx, fy, cl, hk2, rfl, rfl, rfl, rfl, x0, x1, y0, y1, c0, hcl⟩ := hrel
          by_cases hlt2 : k < l
          · have hcell := World.rowIs.cell HR.out hlt2
            obtain ⟨z0, z1⟩ := HZ.out k hlt2
            rcases Int.lt_trichotomy cx (Z k) with hA | hB | hC
            · go_wp2
              go_round
              case rel => exact ⟨k + 1, _, _, _, by omega, by go_num, rfl, rfl, rfl, z0, z1, by omega, by omega, by omega, by omega⟩
              case measure => simp [intOf]; omega
            · subst hB
              have hbb : (Z k == Z k) = true := by simp
              go_wp2
              go_round
              case rel => exact ⟨k + 1, _, _, _, by omega, by go_num, rfl, rfl, rfl, z0, z1, by omega, by omega, by omega, by omega⟩
              case measure => simp [intOf]; omega
            · by_cases hy : fy < 9
              · go_wp2
                go_round
                case rel => exact ⟨k + 1, _, _, _, by omega, by go_num, rfl, rfl, rfl, x0, x1, by omega, by omega, by omega, by omega⟩
                case measure => simp [intOf]; omega
              · have hy9 : 9 ≤ fy := by omega
                go_wp2
                go_round
                case rel => exact ⟨k + 1, _, _, _, by omega, by go_num, rfl, rfl, rfl, by omega, by omega, by omega, by omega, by omega, by omega⟩
                case measure => simp [intOf]; omega
          · go_wp2
            go_ret
            exact ⟨rfl, hb⟩
end Go.Proofs.Qxb6600758a

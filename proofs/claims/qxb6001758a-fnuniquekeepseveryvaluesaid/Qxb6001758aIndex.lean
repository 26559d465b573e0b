/- indexOf, (*Stanza).index -/
import Derived.Test.Qxb6001758aMem
import Derived.Deep.RegionWith
namespace Go.Proofs.Qxb6001758a
open Go.RowKit
set_option linter.unusedVariables false

/-- The slice at 'a' holds n fields: names N, values V. -/
def Flds (w : World) (a : Option Addr) (n : Nat) (N V : Nat → ByteArray) : Prop :=
  ∀ i, i < n → ∃ b off, a = some ⟨b, off, none⟩ ∧ w.cell? ⟨b, off + i * 2, none⟩ = some (.string (N i)) ∧ w.cell? ⟨b, off + i * 2 + 1, none⟩ = some (.string (V i)) ∧ (N i).size ≤ maxLen ∧ (V i).size ≤ maxLen

theorem Flds.below {w w' : World} {a : Option Addr} {n : Nat} {N V : Nat → ByteArray} {B : Nat} (h : Flds w a n N V) (hB : w.heap.size ≤ B) (hb : Below B w w') : Flds w' a n N V := by
  intro i hi
  obtain ⟨b, off, e, hc, hc', hs⟩ := h i hi
  have := World.block_lt_of_cell? _ _ hc
  exact ⟨b, off, e, (hb.cell (p := ⟨b, off + i * 2, none⟩) (by simp at this ⊢; omega)).trans hc, (hb.cell (p := ⟨b, off + i * 2 + 1, none⟩) (by simp at this ⊢; omega)).trans hc', hs⟩

/-- x is the first index below n at which p holds, or -1 where there is none. -/
def Found (p : Nat → Bool) (n : Nat) (x : Int) : Prop :=
  (x = -1 ∧ ∀ j, j < n → p j = false) ∨ ∃ k : Nat, x = k ∧ k < n ∧ p k = true ∧ ∀ j, j < k → p j = false

/-- What is returned is such an index. -/
def IdxRet (p : Nat → Bool) (n : Nat) (e : Ending) : Prop := ∃ x, e = .returned (.int .i64 x) ∧ Found p n x
theorem idxRet_none {p : Nat → Bool} {n : Nat} (h : ∀ j, j < n → p j = false) : IdxRet p n (.returned (.int .i64 (-1))) := ⟨-1, rfl, .inl ⟨rfl, h⟩⟩
theorem idxRet_some {p : Nat → Bool} {n k : Nat} (hk : k < n) (h : ∀ j, j < k → p j = false) (hp : p k = true) : IdxRet p n (.returned (.int .i64 k)) := ⟨k, rfl, .inr ⟨k, rfl, hk, hp, h⟩⟩

theorem drewN_below {B : Nat} {w w' : World} (h : Below B w w') {w1 : World} (e : ∃ n, w1 = w'.drewN n) : Below B w w1 := by
  obtain ⟨n, rfl⟩ := e
  exact ⟨h.os, h.tape, h.output, h.size, h.block⟩

theorem none_step {p : Nat → Bool} {k : Nat} (h : Hid (∀ j, j < k → p j = false)) (hk : p k = false) : Hid (∀ j, j < k + 1 → p j = false) := by
  intro j hj
  by_cases e : j = k
  · subst e; exact hk
  · exact h.out j (by omega)

set_option maxHeartbeats 800000 in
theorem indexOf_any (d : Bool) (a : Option Addr) (n c : Nat) (N V : Nat → ByteArray) (s : ByteArray) (w : World) (h : Flds w a n N V) (hn : n ≤ 1048576) (hs : s.size ≤ maxLen) :
    Calls Try.prog 27 #[.int .u8 (rl d), .slice a n c, .string s] w fun e w' => IdxRet (fun j => sameB d (N j) s) n e ∧ Below w.heap.size w w' := by
  go_enter Try.func27, Try.ntmps27
  go_wp2
  go_loopw [11] (fun i wr => ∃ k : Nat, k ≤ n ∧ i = .int .i64 k ∧ Below w.heap.size w wr ∧ Hid (∀ j, j < k → sameB d (N j) s = false)) (fun i _ => n - (intOf i).toNat)
  case atStart => exact ⟨0, Nat.zero_le _, rfl, Below.refl _ _, fun j hj => by omega⟩
  case round =>
    obtain ⟨k, hk, rfl, hb, hall⟩ := hrel
    by_cases hlt : k < n
    · obtain ⟨b, off, rfl, hc, hc', hsN, hsV⟩ := (h.below (Nat.le_refl _) hb) k hlt
      go_wp2_with fail
      refine (same_any _ _ _ _ hsN hs).mono ?_
      rintro e w1 ⟨rfl, hw1⟩
      have hb1 := drewN_below (hb.alloc hb.size (Obj.cells #[Value.string (N k), Value.string (V k)] 33)) hw1
      clear hc hc' hw1
      by_cases hsm : sameB d (N k) s = true
      · go_wp2
        go_ret
        exact ⟨idxRet_some hlt hall.out hsm, hb1⟩
      · have hsm' : sameB d (N k) s = false := by simpa using hsm
        go_wp2
        go_roundw
        case rel => exact ⟨k + 1, by omega, by go_num, hb1, none_step hall hsm'⟩
        case measure => simp [intOf]; omega
    · have ek : k = n := by omega
      go_wp2
      go_ret
      exact ⟨idxRet_none (fun j hj => hall.out j (by omega)), hb⟩
end Go.Proofs.Qxb6001758a

/- appendKey, key. -/
import Derived.Test.Qxb6001758aIndex
import Derived.Test.Qxb6001758aKeyPlain
import Derived.Lib.AppendStr
import Derived.Laws.IdiomStrings
import Derived.Laws.BytesArg
namespace Go.Proofs.Qxb6001758a
open Go.RowKit
set_option linter.unusedVariables false

theorem Try.info5 : (Try.prog.info? 5).map (fun i => (i.zero, i.size, i.bytes)) = some (some (.int .u8 0), 1, 1) := by kernel_rfl

def byteV (l : List UInt8) : List Value := l.map fun b => Value.int .u8 (b.toNat : Int)

theorem byteV_get (d : Bool) (s : ByteArray) (k : Nat) (h : k < s.size) : (byteV (mixL d s k))[k]? = some (.int .u8 (s[k].toNat : Int)) := by
  simp [byteV, mixL_get d s k h]
theorem byteV_set (d : Bool) (s : ByteArray) (k : Nat) (h : k < s.size) : (byteV (mixL d s k)).set k (.int .u8 (foldI d (s[k].toNat : Int))) = byteV (mixL d s (k + 1)) := by
  rw [← mixL_set d s k h, byteV, byteV, List.map_set, foldU_nat]

theorem strCells_byteV (s : ByteArray) : Lib.strCells s = byteV s.data.toList := rfl

set_option maxHeartbeats 800000 in
theorem appendKey_any (d : Bool) (s : ByteArray) (w : World) (hs : s.size ≤ 1048576) :
    Calls Try.prog 31 #[.int .u8 (rl d), .slice none 0 0, .string s] w fun e w' =>
      (∃ v, e = .returned v ∧ w'.ownsRow w.heap.size 5 1 v s.size (byteV (keyL d s))) ∧ Below w.heap.size w w' := by
  obtain ⟨i5, hi5, hz50, hz51, hz52⟩ := info_parts Try.info5
  go_enter Try.func31, Try.ntmps31
  go_wp2_with (at_builtin; refine Lib.wpList_append_own_string _ rfl _ _ 67 9 rfl w.heap.size 5 i5 Try.underlying67 Try.underlying9 hi5 hz50 hz51 hz52 _ 0 [] rfl (World.ownsRow_nil _ _ _ _) s rfl (by unfold maxLen; omega) (by omega) (Nat.le_refl _) ?_)
  intro v' w1 hown1 hg1 hnil
  have hb1 : Below w.heap.size w w1 := (Below.refl _ _).grown hg1 (Nat.le_refl _) (fun k hk => by cases hk)
  simp only [strCells_byteV] at hown1
  clear hg1
  rcases Nat.eq_zero_or_pos s.size with h0 | hpos
  · have hv : v' = .slice none 0 0 := hnil.2 (by simpa using h0)
    clear hnil
    subst hv
    clear hown1
    have HS : Hid (s.size = 0) := h0
    clear h0
    go_wp2
    go_loopw [8] (fun i wr => i = .int .i64 0 ∧ wr = w1) (fun i _ => 0)
    case atStart => exact ⟨rfl, rfl⟩
    case round =>
      obtain ⟨rfl, hw⟩ := hrel
      subst hw
      go_wp2
      go_ret
      refine ⟨⟨_, rfl, ?_⟩, hb1⟩
      have hk : keyL d s = [] := List.eq_nil_of_length_eq_zero (by rw [keyL_length, HS.out])
      rw [hk, HS.out]
      exact World.ownsRow_nil _ _ _ _
  clear hnil
  · rcases hown1.2 with ⟨rfl, h0⟩ | ⟨g, cap, cur, rfl, hbg, hg, _⟩
    · omega
    clear hg
    rw [← mixL_zero d s] at hown1
    go_wp2
    go_loopw [8] (fun i wr => ∃ k : Nat, k ≤ s.size ∧ i = .int .i64 k ∧ Below w.heap.size w wr ∧ Hid (wr.ownsRow w.heap.size 5 1 (.slice (some ⟨g, 0, none⟩) s.size cap) s.size (byteV (mixL d s k)))) (fun i _ => s.size - (intOf i).toNat)
    case atStart => exact ⟨0, Nat.zero_le _, rfl, hb1, hown1⟩
    case round =>
      obtain ⟨k, hk, rfl, hb, hI⟩ := hrel
      by_cases hlt : k < s.size
      · have hc := (hI.out.cellAt k (by omega)).trans (byteV_get d s k hlt)
        have hf := hI.out.frozenAt k
        go_wp2_with fail
        refine (fold_b d s[k] _).mono ?_
        rintro e w2 ⟨rfl, hw⟩
        rw [hw]
        clear hw w2
        go_wp2
        go_roundw
        case rel =>
          have hst := hI.out.stored k (.int .u8 (foldI d (s[k].toNat : Int)))
          rw [byteV_set d s k hlt] at hst
          exact ⟨k + 1, by omega, by go_num, hb.setCell hbg _, hst.1⟩
        case measure => simp [intOf]; omega
      · go_wp2
        go_ret
        obtain rfl : k = s.size := by omega
        refine ⟨⟨_, rfl, ?_⟩, hb⟩
        rw [← mixL_all d s]
        exact hI.out

theorem byteV_at (l : List UInt8) (j : Nat) (hj : j < l.length) : (byteV l)[j]? = some (.int .u8 (l[j].toNat : Int)) := by simp [byteV, hj]

set_option maxHeartbeats 400000 in
theorem key_any (d : Bool) (s : ByteArray) (w : World) (hs : s.size ≤ 1048576) :
    Calls Try.prog 28 #[.int .u8 (rl d), .string s] w fun e w' => e = .returned (.string (keyB d s)) ∧ Below w.heap.size w w' := by
  go_enter Try.func28, Try.ntmps28
  go_wp2_with fail
  refine (appendKey_any d s _ hs).mono ?_
  rintro e w1 ⟨⟨v, rfl, hown⟩, hb⟩
  have hl := keyL_length d s
  have HL : Hid ((keyL d s).length = s.size) := hl
  rcases hown.2 with ⟨rfl, h0⟩ | ⟨g, cap, cur, rfl, _⟩
  · have hk : keyL d s = [] := List.eq_nil_of_length_eq_zero (by omega)
    have hcv := run_convert_bytes_nil (P := Try.prog) w1 67 5 Try.underlying67 Try.underlying5 0 0 9 Try.underlying9
    clear hl hown
    have HK : Hid (keyL d s = []) := hk
    clear hk h0
    go_wp2
    go_ret
    exact ⟨by rw [keyB, HK.out]; rfl, hb⟩
  · have hcv := run_convert_bytes_back (P := Try.prog) w1 67 9 5 ⟨g, 0, none⟩ cap (keyL d s) Try.underlying67 Try.underlying5 Try.underlying9 (fun j hj => by
      rw [Addr.add_lit, Nat.zero_add, hown.cellAt j (by omega), byteV_at _ _ hj])
    rw [hl] at hcv
    clear hl hown
    go_wp2
    go_ret
    exact ⟨rfl, hb⟩
end Go.Proofs.Qxb6001758a

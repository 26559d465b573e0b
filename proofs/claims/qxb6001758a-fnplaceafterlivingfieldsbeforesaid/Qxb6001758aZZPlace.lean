/- ZZPlace -/
import Derived.Test.Qxb6001758aZZInv
import Derived.BigRegion
namespace Go.Proofs.Qxb6001758a
open Go.RowKit
set_option linter.unusedVariables false

theorem cell_box {w : World} {b : Nat} {cs : Array Value} {t : TypeId} {i : Nat} {v : Value} (h : w.heap[b]? = some (.cells cs t (0, 0))) (hv : cs[i]? = some v) : w.cell? ⟨b, i, none⟩ = some v := by
  simp [World.cell?, h, hv]

set_option maxHeartbeats 3200000 in
theorem zzplace_false (a : Option Addr) (n c : Nat) (L : Nat → ByteArray) (fa : Option Addr) (m fc : Nat) (N : Nat → ByteArray) (ra : Option Addr) (nr rc : Nat) (R : Nat → Bool) (j : Nat) (w : World)
    (h : Strs w a n L) (hn : n ≤ 1048576) (hF : Strs w fa m N) (hm : m ≤ 1048576) (hR : Bls w ra nr R) (hnr : nr ≤ 1048576) (hj : j < m) :
    Calls Try.prog 20 #[.slice a n c, .bool false, .slice fa m fc, .slice ra nr rc, .int .i64 j] w fun e w' => PlaceRet false L n N (fun k => decide (k < nr) && R k) m j e ∧ Below w.heap.size w w' := by
  have hmk := run_make_any (P := Try.prog) 26 33 _ 2 32 Try.underlying26 Try.info33 .i64 .i64 n (by omega) (by omega)
  go_enter Try.func20, Try.ntmps20
  go_wp2
  clear hmk
  go_loopw [13] (fun i wr => ∃ k : Nat, k ≤ n ∧ i = .int .i64 k ∧ Hid (Inv1 w wr n k L (rl false))) (fun i _ => n - (intOf i).toNat)
  case atStart => exact ⟨0, Nat.zero_le _, rfl, Inv1.start w n L (rl false)⟩
  case round =>
    obtain ⟨k, hk, rfl, hI⟩ := hrel
    by_cases hlt : k < n
    · obtain ⟨b, off, rfl, hc, hs⟩ := (h.below (Nat.le_refl _) hI.out.bel) k hlt
      have g0 : wr.cell? ⟨w.heap.size + 1, 0, none⟩ = some (.slice (some ⟨w.heap.size, 0, none⟩) n n) := cell_box hI.out.box rfl
      have r0 := hI.out.row.cell (i := k * 2) (by omega)
      have r1 := hI.out.row.cell (i := k * 2 + 1) (by omega)
      have f0 := hI.out.row.frozen (k * 2)
      have f1 := hI.out.row.frozen (k * 2 + 1)
      go_wp2
      go_region
      go_wp2
      go_roundw
      case rel => exact ⟨k + 1, by omega, by go_num, hI.out.step⟩
      case measure => simp [intOf]; omega
    · have ek : k = n := by omega
      subst ek
      have hmk2 := run_make_any (P := Try.prog) 55 60 _ 6 56 Try.underlying55 Try.info60 .i64 .i64 m (by omega) (by omega)
      go_wp2
      clear hmk2
      go_loopw [15] (fun i w2 => ∃ k : Nat, k ≤ m ∧ i = .int .i64 k ∧ Hid (Inv2 wr w2 m k N (fun k => decide (k < nr) && R k) (.pointer (some ⟨w.heap.size + 1, 0, none⟩)) (rl false))) (fun i _ => m - (intOf i).toNat)
      case atStart => exact ⟨0, Nat.zero_le _, rfl, Inv2.start _ _ _ _ _ (rl false)⟩
      case round =>
        obtain ⟨k2, hk2, rfl, hJ⟩ := hrel
        have hB2 : Below w.heap.size w wr := hI.out.bel.trans (hJ.out.bel.mono hI.out.bel.size)
        by_cases hlt2 : k2 < m
        · obtain ⟨b, off, rfl, hc, hs⟩ := (hF.below (Nat.le_refl _) hB2) k2 hlt2
          have g14 := cell_box (i := 14) hJ.out.box rfl
          have r0 := hJ.out.row.cell (i := k2 * 6) (by omega)
          have r1 := hJ.out.row.cell (i := k2 * 6 + 1) (by omega)
          have r2 := hJ.out.row.cell (i := k2 * 6 + 2) (by omega)
          have r3 := hJ.out.row.cell (i := k2 * 6 + 3) (by omega)
          have r4 := hJ.out.row.cell (i := k2 * 6 + 4) (by omega)
          have r5 := hJ.out.row.cell (i := k2 * 6 + 5) (by omega)
          have f0 := hJ.out.row.frozen (k2 * 6)
          have f1 := hJ.out.row.frozen (k2 * 6 + 1)
          have f2 := hJ.out.row.frozen (k2 * 6 + 2)
          have f3 := hJ.out.row.frozen (k2 * 6 + 3)
          have f4 := hJ.out.row.frozen (k2 * 6 + 4)
          have f5 := hJ.out.row.frozen (k2 * 6 + 5)
          have hk2i : (k2 : Int) < (m : Int) := by omega
          by_cases hr : k2 < nr
          · obtain ⟨b1, off1, rfl, hc1⟩ := (hR.below (Nat.le_refl _) hB2) k2 hr
            have hd : decide ((k2 : Int) < (nr : Int)) = true := by simp; omega
            have hri : (k2 : Int) < (nr : Int) := by omega
            go_wp2
            go_big_region
            go_wp2
            go_roundw
            case rel => exact ⟨k2 + 1, by omega, by go_num, hJ.out.step (x := R k2) (by simp [hr])⟩
            case measure => simp [intOf]; omega
          · have hd : decide ((k2 : Int) < (nr : Int)) = false := by simp; omega
            go_wp2
            go_big_region
            go_wp2
            go_roundw
            case rel => exact ⟨k2 + 1, by omega, by go_num, hJ.out.step (x := false) (by simp [hr])⟩
            case measure => simp [intOf]; omega
        · have ek2 : k2 = m := by omega
          subst ek2
          go_wp2_with fail
          refine (place_any false _ (w.heap.size + 1) _ _ _ L (fun _ => ByteArray.empty) _ _ N _ j _ ((hI.out.flds (fun i hi => (h i hi).choose_spec.choose_spec.2.2)).below (Nat.le_refl _) hJ.out.bel) hn (hJ.out.fts (fun i hi => (hF i hi).choose_spec.choose_spec.2.2)) hm hj
            ((hJ.out.bel.cell (p := ⟨w.heap.size + 1, 0, none⟩) (by have := hI.out.size; simp; omega)).trans (cell_box hI.out.box rfl)) ((hJ.out.bel.cell (p := ⟨w.heap.size + 1, 2, none⟩) (by have := hI.out.size; simp; omega)).trans (cell_box hI.out.box rfl))
            (cell_box hJ.out.box rfl) (cell_box hJ.out.box rfl)).mono ?_
          rintro e w3 ⟨⟨x, rfl, hx⟩, hb3⟩
          go_wp2
          go_ret
          exact ⟨⟨x, rfl, hx⟩, hB2.trans (hb3.mono hB2.size)⟩

set_option maxHeartbeats 3200000 in
theorem zzplace_true (a : Option Addr) (n c : Nat) (L : Nat → ByteArray) (fa : Option Addr) (m fc : Nat) (N : Nat → ByteArray) (ra : Option Addr) (nr rc : Nat) (R : Nat → Bool) (j : Nat) (w : World)
    (h : Strs w a n L) (hn : n ≤ 1048576) (hF : Strs w fa m N) (hm : m ≤ 1048576) (hR : Bls w ra nr R) (hnr : nr ≤ 1048576) (hj : j < m) :
    Calls Try.prog 20 #[.slice a n c, .bool true, .slice fa m fc, .slice ra nr rc, .int .i64 j] w fun e w' => PlaceRet true L n N (fun k => decide (k < nr) && R k) m j e ∧ Below w.heap.size w w' := by
  have hmk := run_make_any (P := Try.prog) 26 33 _ 2 32 Try.underlying26 Try.info33 .i64 .i64 n (by omega) (by omega)
  go_enter Try.func20, Try.ntmps20
  go_wp2
  clear hmk
  go_loopw [13] (fun i wr => ∃ k : Nat, k ≤ n ∧ i = .int .i64 k ∧ Hid (Inv1 w wr n k L (rl true))) (fun i _ => n - (intOf i).toNat)
  case atStart => exact ⟨0, Nat.zero_le _, rfl, Inv1.start w n L (rl true)⟩
  case round =>
    obtain ⟨k, hk, rfl, hI⟩ := hrel
    by_cases hlt : k < n
    · obtain ⟨b, off, rfl, hc, hs⟩ := (h.below (Nat.le_refl _) hI.out.bel) k hlt
      have g0 : wr.cell? ⟨w.heap.size + 1, 0, none⟩ = some (.slice (some ⟨w.heap.size, 0, none⟩) n n) := cell_box hI.out.box rfl
      have r0 := hI.out.row.cell (i := k * 2) (by omega)
      have r1 := hI.out.row.cell (i := k * 2 + 1) (by omega)
      have f0 := hI.out.row.frozen (k * 2)
      have f1 := hI.out.row.frozen (k * 2 + 1)
      go_wp2
      go_region
      go_wp2
      go_roundw
      case rel => exact ⟨k + 1, by omega, by go_num, hI.out.step⟩
      case measure => simp [intOf]; omega
    · have ek : k = n := by omega
      subst ek
      have hmk2 := run_make_any (P := Try.prog) 55 60 _ 6 56 Try.underlying55 Try.info60 .i64 .i64 m (by omega) (by omega)
      go_wp2
      clear hmk2
      go_loopw [15] (fun i w2 => ∃ k : Nat, k ≤ m ∧ i = .int .i64 k ∧ Hid (Inv2 wr w2 m k N (fun k => decide (k < nr) && R k) (.pointer (some ⟨w.heap.size + 1, 0, none⟩)) (rl true))) (fun i _ => m - (intOf i).toNat)
      case atStart => exact ⟨0, Nat.zero_le _, rfl, Inv2.start _ _ _ _ _ (rl true)⟩
      case round =>
        obtain ⟨k2, hk2, rfl, hJ⟩ := hrel
        have hB2 : Below w.heap.size w wr := hI.out.bel.trans (hJ.out.bel.mono hI.out.bel.size)
        by_cases hlt2 : k2 < m
        · obtain ⟨b, off, rfl, hc, hs⟩ := (hF.below (Nat.le_refl _) hB2) k2 hlt2
          have g14 := cell_box (i := 14) hJ.out.box rfl
          have r0 := hJ.out.row.cell (i := k2 * 6) (by omega)
          have r1 := hJ.out.row.cell (i := k2 * 6 + 1) (by omega)
          have r2 := hJ.out.row.cell (i := k2 * 6 + 2) (by omega)
          have r3 := hJ.out.row.cell (i := k2 * 6 + 3) (by omega)
          have r4 := hJ.out.row.cell (i := k2 * 6 + 4) (by omega)
          have r5 := hJ.out.row.cell (i := k2 * 6 + 5) (by omega)
          have f0 := hJ.out.row.frozen (k2 * 6)
          have f1 := hJ.out.row.frozen (k2 * 6 + 1)
          have f2 := hJ.out.row.frozen (k2 * 6 + 2)
          have f3 := hJ.out.row.frozen (k2 * 6 + 3)
          have f4 := hJ.out.row.frozen (k2 * 6 + 4)
          have f5 := hJ.out.row.frozen (k2 * 6 + 5)
          have hk2i : (k2 : Int) < (m : Int) := by omega
          by_cases hr : k2 < nr
          · obtain ⟨b1, off1, rfl, hc1⟩ := (hR.below (Nat.le_refl _) hB2) k2 hr
            have hd : decide ((k2 : Int) < (nr : Int)) = true := by simp; omega
            have hri : (k2 : Int) < (nr : Int) := by omega
            go_wp2
            go_big_region
            go_wp2
            go_roundw
            case rel => exact ⟨k2 + 1, by omega, by go_num, hJ.out.step (x := R k2) (by simp [hr])⟩
            case measure => simp [intOf]; omega
          · have hd : decide ((k2 : Int) < (nr : Int)) = false := by simp; omega
            go_wp2
            go_big_region
            go_wp2
            go_roundw
            case rel => exact ⟨k2 + 1, by omega, by go_num, hJ.out.step (x := false) (by simp [hr])⟩
            case measure => simp [intOf]; omega
        · have ek2 : k2 = m := by omega
          subst ek2
          go_wp2_with fail
          refine (place_any true _ (w.heap.size + 1) _ _ _ L (fun _ => ByteArray.empty) _ _ N _ j _ ((hI.out.flds (fun i hi => (h i hi).choose_spec.choose_spec.2.2)).below (Nat.le_refl _) hJ.out.bel) hn (hJ.out.fts (fun i hi => (hF i hi).choose_spec.choose_spec.2.2)) hm hj
            ((hJ.out.bel.cell (p := ⟨w.heap.size + 1, 0, none⟩) (by have := hI.out.size; simp; omega)).trans (cell_box hI.out.box rfl)) ((hJ.out.bel.cell (p := ⟨w.heap.size + 1, 2, none⟩) (by have := hI.out.size; simp; omega)).trans (cell_box hI.out.box rfl))
            (cell_box hJ.out.box rfl) (cell_box hJ.out.box rfl)).mono ?_
          rintro e w3 ⟨⟨x, rfl, hx⟩, hb3⟩
          go_wp2
          go_ret
          exact ⟨⟨x, rfl, hx⟩, hB2.trans (hb3.mono hB2.size)⟩

theorem zzplace_any (d : Bool) (a : Option Addr) (n c : Nat) (L : Nat → ByteArray) (fa : Option Addr) (m fc : Nat) (N : Nat → ByteArray) (ra : Option Addr) (nr rc : Nat) (R : Nat → Bool) (j : Nat) (w : World)
    (h : Strs w a n L) (hn : n ≤ 1048576) (hF : Strs w fa m N) (hm : m ≤ 1048576) (hR : Bls w ra nr R) (hnr : nr ≤ 1048576) (hj : j < m) :
    Calls Try.prog 20 #[.slice a n c, .bool d, .slice fa m fc, .slice ra nr rc, .int .i64 j] w fun e w' => PlaceRet d L n N (fun k => decide (k < nr) && R k) m j e ∧ Below w.heap.size w w' := by
  cases d
  · exact zzplace_false a n c L fa m fc N ra nr rc R j w h hn hF hm hR hnr hj
  · exact zzplace_true a n c L fa m fc N ra nr rc R j w h hn hF hm hR hnr hj
end Go.Proofs.Qxb6001758a

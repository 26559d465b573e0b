/- FnUniqueMatchesModel: the walk. -/
import Derived.Test.Qxb6001758aFields
namespace Go.Proofs.Qxb6001758a
open Go.RowKit
set_option linter.unusedVariables false

theorem Strs.cells {w : World} {b off n : Nat} {S : Nat → ByteArray} (h : Strs w (some ⟨b, off, none⟩) n S) : ∀ j, j < n → w.cell? ⟨b, off + j, none⟩ = some (.string (S j)) ∧ (S j).size ≤ maxLen := by
  intro j hj
  obtain ⟨b', off', e, hc, hs⟩ := h j hj
  simp only [Option.some.injEq, Addr.mk.injEq] at e
  obtain ⟨rfl, rfl, _⟩ := e
  exact ⟨hc, hs⟩

set_option maxRecDepth 100000 in
set_option maxHeartbeats 3200000 in
theorem walk3 (a : Option Addr) (n c : Nat) (N : Nat → ByteArray) (ra : Option Addr) (n1 rc : Nat) (V : Nat → ByteArray) (d : Bool) (w : World)
    (h : Strs w a n N) (hn : n ≤ maxLen) (hV : Strs w ra n1 V) (hn1 : n1 ≤ maxLen) :
    Calls Try.prog 3 #[.slice a n c, .slice ra n1 rc, .bool d] w fun e w' => e = .returned (.bool true) ∧ Below w.heap.size w w' := by
  have hnot : ∀ (x : Bool) (w : World), (Op.unary .not (.bool x)).run Try.prog w = .ok (.bool (!x)) w := fun _ _ => rfl
  have hnm := hn
  have hnm1 := hn1
  unfold maxLen at hn hn1
  go_enter Try.func3, Try.ntmps3
  go_wp2_with fail
  refine (bytesU8_any _ _ _ N _ _ _ V _ _ h hV hnm hnm1).mono ?_
  rintro e w1 ⟨⟨x, rfl, hsz⟩, hw⟩
  rw [hw]
  clear hw w1
  cases x
  · go_wp2
    go_ret
    exact ⟨rfl, Below.refl _ _⟩
  have hN : Hid (∀ i, i < n → (N i).size ≤ 1048576) := hsz rfl
  clear hsz
  go_wp2_with fail
  refine (zzBytes_any _ _ _ N _ h hnm).mono ?_
  rintro e w1 ⟨⟨y, rfl⟩, hw⟩
  rw [hw]
  clear hw w1
  go_wp2_with fail
  refine (zzBytes_any _ _ _ V _ hV hnm1).mono ?_
  rintro e w1 ⟨⟨y1, rfl⟩, hw⟩
  rw [hw]
  clear hw w1
  by_cases hy : 1048576 < wrap64 (y + y1)
  · go_wp2
    go_ret
    exact ⟨rfl, Below.refl _ _⟩
  have hdy : decide ((1048576 : Int) < wrap64 (y + y1)) = false := by simp; omega
  clear hy
  by_cases h12 : n ≤ 4096
  rotate_left
  · have hd12 : decide ((4096 : Int) < (n : Int)) = true := by simp; omega
    go_wp2
    go_ret
    exact ⟨rfl, Below.refl _ _⟩
  have hd12 : decide ((4096 : Int) < (n : Int)) = false := by simp; omega
  by_cases h13 : n1 ≤ 4096
  rotate_left
  · have hd13 : decide ((4096 : Int) < (n1 : Int)) = true := by simp; omega
    go_wp2
    go_ret
    exact ⟨rfl, Below.refl _ _⟩
  have hd13 : decide ((4096 : Int) < (n1 : Int)) = false := by simp; omega
  go_wp2_with fail
  refine (copyStrs _ _ _ N _ h (by omega)).mono ?_
  rintro e w1 ⟨a1, c1, rfl, h1, hb1⟩
  go_wp2_with fail
  refine (copyStrs _ _ _ V _ (hV.below (Nat.le_refl _) hb1) (by omega)).mono ?_
  rintro e w2 ⟨a2, c2, rfl, hV2, hb2⟩
  have hB2 : Below w.heap.size w w2 := hb1.trans (hb2.mono hb1.size)
  have hS2 : Strs w2 a1 n N := h1.below (Nat.le_refl _) hb2
  clear h1 hb1 hb2 h hV
  obtain ⟨m, hm⟩ : ∃ m, m = min n n1 := ⟨_, rfl⟩
  have hmn : m ≤ n := by omega
  have hmn1 : m ≤ n1 := by omega
  have HM : Hid (m = min n n1) := hm
  clear hm
  go_wp2_with fail
  refine (zzFields_any _ _ _ N _ _ _ V m _ hS2 hV2 h12 h13 HM.out).mono ?_
  rintro e w3 ⟨⟨g, rfl, hF3⟩, hb3⟩
  go_wp2_with fail
  refine (zzStanza_any d _ _ _ _).mono ?_
  rintro e w4 ⟨rfl, s0, s2, hb4⟩
  go_wp2_with fail
  refine (unique_any d _ _ m _ N V _ (hF3.below (Nat.le_refl _) hb4) (by omega) (fun i hi => hN.out i (by omega)) s0 s2).mono ?_
  rintro e w5 ⟨⟨gu, rfl, hU5⟩, hb5⟩
  have hB5 : Below w2.heap.size w2 w5 := hb3.trans ((hb4.trans (hb5.mono hb4.size)).mono hb3.size)
  have hS5 := hS2.below (Nat.le_refl _) hB5
  have hV5 := hV2.below (Nat.le_refl _) hB5
  have hBB : Below w.heap.size w w5 := hB2.trans (hB5.mono hB2.size)
  clear hS2 hV2 hF3 hb3 hb4 hb5 s0 s2 hB5 hB2
  go_wp2
  have hFl := Fs_length (d := d) (N := N) m
  go_loopw [10, 11] (fun k i wr => ∃ q : Nat, q ≤ m ∧ i = .int .i64 q ∧ k = .int .i64 ((Fs d N q).length : Nat) ∧ Hid (∃ t, wr = w5.drewN t)) (fun _ i _ => m - (intOf i).toNat)
  case atStart => exact ⟨0, Nat.zero_le _, rfl, rfl, ⟨0, rfl⟩⟩
  case round =>
    obtain ⟨q, hq, rfl, rfl, HD⟩ := hrel
    by_cases hlt : q < m
    · obtain ⟨b, off, rfl, _⟩ := hS5 q (by omega)
      obtain ⟨b2, off2, rfl, _⟩ := hV5 q (by omega)
      have hql := Fs_length (d := d) (N := N) q
      go_wp2
      go_loopw [12, 13] (fun f p w6 => ∃ r : Nat, r ≤ q ∧ p = .int .i64 r ∧ f = .bool true ∧ Hid (∃ t, w6 = wr.drewN t) ∧ Hid (∀ p', p' < r → sameB d (N p') (N q) = false)) (fun _ p _ => q - (intOf p).toNat)
      case atStart => exact ⟨0, Nat.zero_le _, rfl, rfl, ⟨0, rfl⟩, fun p' hp => by omega⟩
      case round =>
        obtain ⟨r, hr, rfl, rfl, HD2, hall⟩ := hrel
        by_cases hlt2 : r < q
        · obtain ⟨cr, szr⟩ := (hS5.below (Nat.le_refl _) (drewAll (drewTrans HD.out HD2.out))).cells r (by omega)
          obtain ⟨cq, szq⟩ := (hS5.below (Nat.le_refl _) (drewAll (drewTrans HD.out HD2.out))).cells q (by omega)
          have hri : (r : Int) < (n : Int) := by omega
          have hqi : (q : Int) < (n : Int) := by omega
          go_wp2
          go_quiet ((go_at_call 14; exact Calls.quiet_of (zzSame_any _ _ _ _ szr szq)))
          go_wp2
          · have hsm : sameB d (N r) (N q) = true := by assumption
            have hfst : isFst d N q = false := by
              cases hf : isFst d N q with
              | false => rfl
              | true => have := (isFst_iff q).1 hf r hlt2; rw [hsm] at this; cases this
            go_roundw
            case rel => exact ⟨q + 1, by omega, by go_num, by rw [Fs_no hfst], drewTrans HD.out (drews HD2.out nq)⟩
            case measure => simp [intOf]; omega
          · have hsm : sameB d (N r) (N q) = false := by assumption
            go_roundw
            case rel => exact ⟨r + 1, by omega, by go_num, rfl, drews HD2.out nq, none_step (p := fun p' => sameB d (N p') (N q)) hall hsm⟩
            case measure => simp [intOf]; omega
        · have hfst : isFst d N q = true := (isFst_iff q).2 (fun p' hp => hall.out p' (by omega))
          obtain ⟨hw1, hw2⟩ := Fs_where hlt hfst
          have HF : Hid (isFst d N q = true) := hfst
          have HW : Hid ((Fs d N m).getD (Fs d N q).length 0 = q) := hw2
          clear hw2 hfst
          go_wp2
          go_loopw [14, 15] (fun l p w6 => ∃ r : Nat, q + 1 ≤ r ∧ r ≤ m ∧ p = .int .i64 r ∧ l = .int .i64 (lastB d N q r : Nat) ∧ Hid (∃ t, w6 = w5.drewN t)) (fun _ p _ => m - (intOf p).toNat)
          case atStart => exact ⟨q + 1, Nat.le_refl _, by omega, by go_num, by rw [lastB_self], drewTrans HD.out HD2.out⟩
          case round =>
            obtain ⟨r2, hr2, hr2', rfl, rfl, HD3⟩ := hrel
            by_cases hlt3 : r2 < m
            · obtain ⟨cr, szr⟩ := (hS5.below (Nat.le_refl _) (drewAll HD3.out)).cells r2 (by omega)
              obtain ⟨cq, szq⟩ := (hS5.below (Nat.le_refl _) (drewAll HD3.out)).cells q (by omega)
              have hri : (r2 : Int) < (n : Int) := by omega
              have hqi : (q : Int) < (n : Int) := by omega
              go_wp2
              go_quiet ((go_at_call 14; exact Calls.quiet_of (zzSame_any _ _ _ _ szr szq)))
              go_wp2
              · have hsm : sameB d (N r2) (N q) = true := by assumption
                go_roundw
                case rel => exact ⟨r2 + 1, by omega, by omega, by go_num, by rw [lastB_succ, if_pos hsm], drews HD3.out nq⟩
                case measure => simp [intOf]; omega
              · have hsm : sameB d (N r2) (N q) = false := by assumption
                go_roundw
                case rel => exact ⟨r2 + 1, by omega, by omega, by go_num, by rw [lastB_succ, if_neg (by rw [hsm]; simp)], drews HD3.out nq⟩
                case measure => simp [intOf]; omega
            · obtain rfl : m = r2 := by omega
              obtain ⟨hla, _, _⟩ := lastB_spec (d := d) (N := N) q m hlt
              obtain ⟨cq, szq⟩ := (hS5.below (Nat.le_refl _) (drewAll HD3.out)).cells q (by omega)
              obtain ⟨cl, szl⟩ := (hV5.below (Nat.le_refl _) (drewAll HD3.out)).cells (lastB d N q m) (by omega)
              obtain ⟨bu, ou, eu, cu, cu', _⟩ := (hU5.below (Nat.le_refl _) (drewAll HD3.out)) (Fs d N q).length hw1
              simp only [Option.some.injEq, Addr.mk.injEq] at eu
              obtain ⟨rfl, rfl, _⟩ := eu
              simp only [HW.out, Nat.zero_add] at cu cu'
              have hqi : (q : Int) < (n : Int) := by omega
              have hli : (lastB d N q m : Int) < (n1 : Int) := by omega
              have hwi : ((Fs d N q).length : Int) < ((Fs d N m).length : Int) := by omega
              go_wp2
              go_quiet (fail)
              go_wp2
              go_roundw
              case rel =>
                have hlen : (Fs d N (q + 1)).length = (Fs d N q).length + 1 := by rw [Fs_yes HF.out]; simp
                exact ⟨q + 1, by omega, by go_num, by rw [hlen]; go_num, drews HD3.out nq⟩
              case measure => simp [intOf]; omega
    · have hqm : q = m := by omega
      have hbe : (((Fs d N q).length : Int) == ((Fs d N m).length : Int)) = true := by simp [hqm]
      clear hqm
      go_wp2
      go_ret
      exact ⟨rfl, drewN_below hBB HD.out⟩
end Go.Proofs.Qxb6001758a

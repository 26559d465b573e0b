/- FnUniqueKeepsEveryValue: the walk. -/
import Derived.Test.Qxb6001758aFields
namespace Go.Proofs.Qxb6001758a
open Go.RowKit
set_option linter.unusedVariables false

/-- Value of a name that the stanza holds: the value of the last field of that name. -/
theorem valRet_stanza {d : Bool} {N V : Nat → ByteArray} {m q : Nat} {e : Ending} (hq : q < m) (h : ValRet (fun j => sameB d (N j) (N q)) m V e) : e = .returned (.tuple #[.string (V (lastB d N q m)), .bool true]) := by
  obtain ⟨l1, l2, l3⟩ := lastB_spec (d := d) (N := N) q m hq
  rcases h with ⟨_, hno⟩ | ⟨k, rfl, hk, hs, hlast⟩
  · have := hno q hq
    simp only [sameB_refl] at this
    cases this
  · simp only at hs hlast
    have : k = lastB d N q m := by
      rcases Nat.lt_trichotomy k (lastB d N q m) with h | h | h
      · have := hlast _ h l1; rw [l2] at this; cases this
      · exact h
      · have := l3 k h hk; rw [hs] at this; cases this
    rw [this]

/-- Value of that name among the unique fields: the same. -/
theorem valRet_unique {d : Bool} {N V : Nat → ByteArray} {m q : Nat} {e : Ending} (hq : q < m) (h : ValRet (fun j => sameB d (N ((Fs d N m).getD j 0)) (N q)) (Fs d N m).length (fun j => V (lastB d N ((Fs d N m).getD j 0) m)) e) : e = .returned (.tuple #[.string (V (lastB d N q m)), .bool true]) := by
  rcases h with ⟨_, hno⟩ | ⟨k, rfl, hk, hs, hlast⟩
  · obtain ⟨x, hx, hs⟩ := Fs_rep (d := d) (N := N) m q hq
    obtain ⟨j, hj, hxj⟩ := List.getElem_of_mem hx
    have := hno j hj
    simp only [List.getD, List.getElem?_eq_getElem hj, Option.getD_some, hxj] at this
    rw [hs] at this
    cases this
  · have e := lastB_same (N := N) (i := (Fs d N m).getD k 0) (j := q) hs m
    show Ending.returned (Value.tuple #[Value.string (V (lastB d N ((Fs d N m).getD k 0) m)), Value.bool true]) = _
    rw [e]

set_option maxRecDepth 100000 in
set_option maxHeartbeats 3200000 in
theorem walk5 (a : Option Addr) (n c : Nat) (N : Nat → ByteArray) (ra : Option Addr) (n1 rc : Nat) (V : Nat → ByteArray) (d : Bool) (w : World)
    (h : Strs w a n N) (hn : n ≤ maxLen) (hV : Strs w ra n1 V) (hn1 : n1 ≤ maxLen) :
    Calls Try.prog 5 #[.slice a n c, .slice ra n1 rc, .bool d] w fun e w' => e = .returned (.bool true) ∧ Below w.heap.size w w' := by
  have hnot : ∀ (x : Bool) (w : World), (Op.unary .not (.bool x)).run Try.prog w = .ok (.bool (!x)) w := fun _ _ => rfl
  have hnm := hn
  have hnm1 := hn1
  unfold maxLen at hn hn1
  go_enter Try.func5, Try.ntmps5
  go_wp2_with fail
  refine (bytesU16_any _ _ _ N _ _ _ V _ _ h hV hnm hnm1).mono ?_
  rintro e w1 ⟨⟨x, rfl, hsz⟩, hw⟩
  rw [hw]
  clear hw w1
  cases x
  · go_wp2
    go_ret
    exact ⟨rfl, Below.refl _ _⟩
  have hN : Hid (∀ i, i < n → (N i).size ≤ 1048576) := hsz rfl
  clear hsz
  go_wp2_with fail
  refine (zzBytes_any _ _ _ N _ h hnm).mono ?_
  rintro e w1 ⟨⟨y, rfl⟩, hw⟩
  rw [hw]
  clear hw w1
  go_wp2_with fail
  refine (zzBytes_any _ _ _ V _ hV hnm1).mono ?_
  rintro e w1 ⟨⟨y1, rfl⟩, hw⟩
  rw [hw]
  clear hw w1
  by_cases hy : 1048576 < wrap64 (y + y1)
  · go_wp2
    go_ret
    exact ⟨rfl, Below.refl _ _⟩
  have hdy : decide ((1048576 : Int) < wrap64 (y + y1)) = false := by simp; omega
  clear hy
  by_cases h12 : n ≤ 4096
  rotate_left
  · have hd12 : decide ((4096 : Int) < (n : Int)) = true := by simp; omega
    go_wp2
    go_ret
    exact ⟨rfl, Below.refl _ _⟩
  have hd12 : decide ((4096 : Int) < (n : Int)) = false := by simp; omega
  by_cases h13 : n1 ≤ 4096
  rotate_left
  · have hd13 : decide ((4096 : Int) < (n1 : Int)) = true := by simp; omega
    go_wp2
    go_ret
    exact ⟨rfl, Below.refl _ _⟩
  have hd13 : decide ((4096 : Int) < (n1 : Int)) = false := by simp; omega
  go_wp2_with fail
  refine (copyStrs _ _ _ N _ h (by omega)).mono ?_
  rintro e w1 ⟨a1, c1, rfl, h1, hb1⟩
  go_wp2_with fail
  refine (copyStrs _ _ _ V _ (hV.below (Nat.le_refl _) hb1) (by omega)).mono ?_
  rintro e w2 ⟨a2, c2, rfl, hV2, hb2⟩
  have hB2 : Below w.heap.size w w2 := hb1.trans (hb2.mono hb1.size)
  have hS2 : Strs w2 a1 n N := h1.below (Nat.le_refl _) hb2
  clear h1 hb1 hb2 h hV
  obtain ⟨m, hm⟩ : ∃ m, m = min n n1 := ⟨_, rfl⟩
  have hmn : m ≤ n := by omega
  have hmn1 : m ≤ n1 := by omega
  have HM : Hid (m = min n n1) := hm
  clear hm
  go_wp2_with fail
  refine (zzFields_any _ _ _ N _ _ _ V m _ hS2 hV2 h12 h13 HM.out).mono ?_
  rintro e w3 ⟨⟨g, rfl, hF3⟩, hb3⟩
  go_wp2_with fail
  refine (zzStanza_any d _ _ _ _).mono ?_
  rintro e w4 ⟨rfl, s0, s2, hb4⟩
  have hF4 := hF3.below (Nat.le_refl _) hb4
  go_wp2_with fail
  refine (unique_any d _ _ m _ N V _ hF4 (by omega) (fun i hi => hN.out i (by omega)) s0 s2).mono ?_
  rintro e w5 ⟨⟨gu, rfl, hU5⟩, hb5⟩
  have sl : w3.heap.size < w4.heap.size := World.block_lt_of_cell? _ _ s0
  have s05 := (hb5.cell (p := ⟨w3.heap.size, 0, none⟩) sl).trans s0
  have s25 := (hb5.cell (p := ⟨w3.heap.size, 2, none⟩) sl).trans s2
  have hF5 := hF4.below (Nat.le_refl _) hb5
  have hFl := Fs_length (d := d) (N := N) m
  have hdF : decide ((m : Int) < ((Fs d N m).length : Int)) = false := by simp; omega
  have hB5 : Below w2.heap.size w2 w5 := hb3.trans ((hb4.trans (hb5.mono hb4.size)).mono hb3.size)
  have hBB : Below w.heap.size w w5 := hB2.trans (hB5.mono hB2.size)
  clear hS2 hV2 hF3 hF4 hb3 hb4 hb5 s0 s2 hB5 hB2
  go_wp2_with fail
  refine (zzStanza_any d _ _ _ _).mono ?_
  rintro e w6 ⟨rfl, u0, u2, hb6⟩
  have s06 := (hb6.cell (p := ⟨w3.heap.size, 0, none⟩) (World.block_lt_of_cell? _ _ s05)).trans s05
  have s26 := (hb6.cell (p := ⟨w3.heap.size, 2, none⟩) (World.block_lt_of_cell? _ _ s25)).trans s25
  have hF6 := hF5.below (Nat.le_refl _) hb6
  have hU6 := hU5.below (Nat.le_refl _) hb6
  have hB6 : Below w.heap.size w w6 := hBB.trans (hb6.mono hBB.size)
  clear s05 s25 hF5 hU5 hb6 hBB
  have S0 : Hid _ := s06
  have S2 : Hid _ := s26
  have U0 : Hid _ := u0
  have U2 : Hid _ := u2
  clear s06 s26 u0 u2
  go_wp2
  go_loopw [11] (fun i wr => ∃ q : Nat, q ≤ m ∧ i = .int .i64 q ∧ Hid (∃ t, wr = w6.drewN t)) (fun i _ => m - (intOf i).toNat)
  case atStart => exact ⟨0, Nat.zero_le _, rfl, ⟨0, rfl⟩⟩
  case round =>
    obtain ⟨q, hq, rfl, HD⟩ := hrel
    by_cases hlt : q < m
    · obtain ⟨bf, of, ef, cf, cf', szf, _⟩ := (hF6.below (Nat.le_refl _) (drewAll HD.out)) q hlt
      simp only [Option.some.injEq, Addr.mk.injEq] at ef
      obtain ⟨rfl, rfl, _⟩ := ef
      simp only [Nat.zero_add] at cf cf'
      go_wp2_with fail
      refine (value_any d _ _ _ _ N V (N q) _ (hF6.below (Nat.le_refl _) (drewAll HD.out)) (by omega) szf ((drewCell HD.out _).trans S0.out) ((drewCell HD.out _).trans S2.out)).mono ?_
      rintro e w7 ⟨hv, HD7⟩
      have hv' := valRet_stanza hlt hv
      subst hv'
      have HD7' : Hid (∃ t, w7 = w6.drewN t) := drewTrans HD.out HD7
      have cf7 := (drewCell HD7 _).trans cf
      clear hv HD7 cf cf'
      go_wp2_with fail
      refine (value_any d _ _ _ _ _ _ (N q) _ (hU6.below (Nat.le_refl _) (drewAll HD7'.out)) (by omega) szf ((drewCell HD7'.out _).trans U0.out) ((drewCell HD7'.out _).trans U2.out)).mono ?_
      rintro e w8 ⟨hv, HD8⟩
      have hv' := valRet_unique hlt hv
      subst hv'
      have HD8' : Hid (∃ t, w8 = w6.drewN t) := drewTrans HD7'.out HD8
      clear hv HD8 cf7
      go_wp2
      go_roundw
      case rel => exact ⟨q + 1, by omega, by go_num, HD8'⟩
      case measure => simp [intOf]; omega
    · go_wp2
      go_ret
      exact ⟨rfl, drewN_below hB6 HD.out⟩
end Go.Proofs.Qxb6001758a

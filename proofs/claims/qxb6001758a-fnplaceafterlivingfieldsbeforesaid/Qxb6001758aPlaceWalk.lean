/- FnPlaceAfterLivingFieldsBefore: the walk. -/
import Derived.Test.Qxb6001758aZZPlace
import Derived.Test.Qxb6001758aPlaceLaw
namespace Go.Proofs.Qxb6001758a
open Go.RowKit
set_option linter.unusedVariables false

/-- How many of the living before both k and q. -/
def wantAt (S : Nat → ByteArray) (p : Nat → Bool) (q k : Nat) : Nat := (Lv S p (min k q)).length
theorem wantAt_le (S : Nat → ByteArray) (p : Nat → Bool) (q k : Nat) : wantAt S p q k ≤ k := by
  unfold wantAt; have := Lv_le S p (min k q); omega
theorem wantAt_no {S : Nat → ByteArray} {p : Nat → Bool} {q k : Nat} (h : p k = false) : wantAt S p q (k + 1) = wantAt S p q k := by
  unfold wantAt
  by_cases hk : k < q
  · rw [show min (k + 1) q = k + 1 by omega, show min k q = k by omega, Lv_no h]
  · rw [show min (k + 1) q = q by omega, show min k q = q by omega]
theorem wantAt_yes {S : Nat → ByteArray} {p : Nat → Bool} {q k : Nat} (h : p k = true) (hk : k < q) : wantAt S p q (k + 1) = wantAt S p q k + 1 := by
  unfold wantAt
  rw [show min (k + 1) q = k + 1 by omega, show min k q = k by omega, Lv_yes h]; simp
theorem wantAt_past {S : Nat → ByteArray} {p : Nat → Bool} {q k : Nat} (hk : q ≤ k) : wantAt S p q (k + 1) = wantAt S p q k := by
  unfold wantAt
  rw [show min (k + 1) q = q by omega, show min k q = q by omega]

/-- The state of the first loop of the law: the living of the first k lie in the row of block B. -/
structure LInv (w wr : World) (S : Nat → ByteArray) (p : Nat → Bool) (n k : Nat) : Prop where
  bel : Below w.heap.size w wr
  own : wr.ownsRow w.heap.size 9 1 (.slice (some ⟨w.heap.size, 0, none⟩) (Lv S p k).length n) (Lv S p k).length ((Lv S p k).map Value.string)

theorem LInv.no {w wr : World} {S : Nat → ByteArray} {p : Nat → Bool} {n k : Nat} (h : LInv w wr S p n k) (hp : p k = false) : LInv w wr S p n (k + 1) := by
  refine ⟨h.bel, ?_⟩
  rw [Lv_no hp]
  exact h.own

theorem LInv.yes {w wr w4 : World} {S : Nat → ByteArray} {p : Nat → Bool} {n k : Nat} {o : Obj} (h : LInv w wr S p n k) (hp : p k = true)
    (h4 : w4.ownsRow w.heap.size 9 1 (.slice (some ⟨w.heap.size, 0, none⟩) ((Lv S p k).length + 1) n) ((Lv S p k).length + 1) ((Lv S p k).map Value.string ++ [.string (S k)])) (hg : (wr.alloc o).grownBy w4 (some w.heap.size)) : LInv w w4 S p n (k + 1) := by
  refine ⟨(h.bel.alloc h.bel.size o).grown hg (by have := h.bel.size; simp; omega) (fun k hk => by cases hk; exact Nat.le_refl _), ?_⟩
  rw [Lv_yes hp]
  simpa using h4

theorem LInv.strs {w wr : World} {S : Nat → ByteArray} {p : Nat → Bool} {n k : Nat} (h : LInv w wr S p n k) (hs : ∀ i, i < k → (S i).size ≤ maxLen) :
    Strs wr (some ⟨w.heap.size, 0, none⟩) (Lv S p k).length (fun i => (Lv S p k).getD i ByteArray.empty) := by
  intro i hi
  refine ⟨_, 0, rfl, ?_, ?_⟩
  · rw [Nat.zero_add, h.own.cellAt i (by omega)]
    simp [hi, List.getD]
  · have : ∀ m x, x ∈ Lv S p m → ∃ i, i < m ∧ x = S i := by
      intro m
      induction m with
      | zero => intro x hx; simp [Lv] at hx
      | succ m ih =>
        intro x hx
        unfold Lv at hx
        split at hx
        · rcases List.mem_append.1 hx with hx | hx
          · obtain ⟨i, hi, e⟩ := ih x hx; exact ⟨i, by omega, e⟩
          · simp at hx; exact ⟨m, by omega, hx⟩
        · obtain ⟨i, hi, e⟩ := ih x hx; exact ⟨i, by omega, e⟩
    have hm : (Lv S p k).getD i ByteArray.empty ∈ Lv S p k := by simp [List.getD, hi]
    obtain ⟨i', hi', e⟩ := this k _ hm
    simp only [e]
    exact hs i' hi'

/-- The i-th of a list of names. -/
def lAt (l : List ByteArray) (i : Nat) : ByteArray := l.getD i ByteArray.empty

theorem drewN_all {w w' : World} (e : ∃ n, w' = w.drewN n) : Below w.heap.size w w' := drewN_below (Below.refl _ _) e
theorem drewN_cell {w w' : World} (h : ∃ m, w' = w.drewN m) (a : Addr) : w'.cell? a = w.cell? a := by obtain ⟨m, rfl⟩ := h; rfl
theorem drewN_trans {w w' w'' : World} (h : ∃ m, w' = w.drewN m) (h' : ∃ m, w'' = w'.drewN m) : ∃ m, w'' = w.drewN m := by
  obtain ⟨m, rfl⟩ := h
  obtain ⟨k, rfl⟩ := h'
  exact drewN_add w m k

theorem pair_step {d : Bool} {l : List ByteArray} {k2 k3 : Nat} (h : Hid (∀ b, k2 < b → b < k3 → sameB d (lAt l k2) (lAt l b) = false)) (h1 : sameB d (lAt l k2) (lAt l k3) = false) :
    Hid (∀ b, k2 < b → b < k3 + 1 → sameB d (lAt l k2) (lAt l b) = false) := by
  intro b hb hb'
  by_cases e : b = k3
  · subst e; exact h1
  · exact h.out b hb (by omega)

theorem pairs_step {d : Bool} {l : List ByteArray} {k2 : Nat} (h : Hid (∀ a b, a < k2 → a < b → b < l.length → sameB d (lAt l a) (lAt l b) = false)) (h1 : ∀ b, k2 < b → b < l.length → sameB d (lAt l k2) (lAt l b) = false) :
    Hid (∀ a b, a < k2 + 1 → a < b → b < l.length → sameB d (lAt l a) (lAt l b) = false) := by
  intro a b ha hab hb
  by_cases e : a = k2
  · subst e; exact h1 b hab hb
  · exact h.out a b (by omega) hab hb

theorem livP_self (R : Nat → Bool) (q : Nat) : livP R q q = false := by simp [livP]
theorem livP_removed {R : Nat → Bool} {q k : Nat} (h : R k = true) : livP R q k = false := by simp [livP, h]
theorem livP_yes {R : Nat → Bool} {q k : Nat} (hk : ¬ k = q) (h : R k = false) : livP R q k = true := by simp [livP, h, hk]

set_option maxHeartbeats 3200000 in
theorem walk7 (a : Option Addr) (n c : Nat) (S : Nat → ByteArray) (ra : Option Addr) (nr rc : Nat) (R : Nat → Bool) (j : Int) (d : Bool) (w : World)
    (h : Strs w a n S) (hn : n ≤ maxLen) (hR : Bls w ra nr R) (hnr : nr ≤ maxLen) :
    Calls Try.prog 7 #[.slice a n c, .slice ra nr rc, .int .i64 j, .bool d] w fun e w' => e = .returned (.bool true) ∧ Below w.heap.size w w' := by
  have hnot : ∀ (x : Bool) (w : World), (Op.unary .not (.bool x)).run Try.prog w = .ok (.bool (!x)) w := fun _ _ => rfl
  have hnm := hn
  have hnrm := hnr
  unfold maxLen at hn hnr
  go_enter Try.func7, Try.ntmps7
  go_wp2_with fail
  refine (zzBytesPlace_any _ _ _ S _ _ _ _ _ _ h hnm hnrm).mono ?_
  rintro e w1 ⟨⟨x, rfl⟩, hw⟩
  rw [hw]
  clear hw w1
  cases x
  · go_wp2
    go_ret
    exact ⟨rfl, Below.refl _ _⟩
  by_cases h20 : nr ≤ 1048576
  rotate_left
  · go_wp2
    go_ret
    exact ⟨rfl, Below.refl _ _⟩
  have hd20 : decide ((1048576 : Int) < (nr : Int)) = false := by simp; omega
  go_wp2_with fail
  refine (zzBytes_any _ _ _ S _ h hnm).mono ?_
  rintro e w1 ⟨⟨y, rfl⟩, hw⟩
  rw [hw]
  clear hw w1
  by_cases hy : 1048576 < wrap64 (y + nr)
  · go_wp2
    go_ret
    exact ⟨rfl, Below.refl _ _⟩
  have hdy : decide ((1048576 : Int) < wrap64 (y + nr)) = false := by simp; omega
  clear hy
  by_cases h12 : n ≤ 4096
  rotate_left
  · go_wp2
    go_ret
    exact ⟨rfl, Below.refl _ _⟩
  have hd12 : decide ((4096 : Int) < (n : Int)) = false := by simp; omega
  by_cases hj0 : j < 0
  · go_wp2
    go_ret
    exact ⟨rfl, Below.refl _ _⟩
  have hdj : decide (j < 0) = false := by simp; omega
  by_cases hjn : (n : Int) ≤ j
  · go_wp2
    go_ret
    exact ⟨rfl, Below.refl _ _⟩
  have hdjn : decide ((n : Int) ≤ j) = false := by simp; omega
  obtain ⟨q, rfl⟩ := Int.eq_ofNat_of_zero_le (show 0 ≤ j by omega)
  go_wp2_with fail
  refine (copyStrs _ _ _ S _ h (by omega)).mono ?_
  rintro e w1 ⟨a1, c1, rfl, h1, hb1⟩
  go_wp2_with fail
  refine (copyBls _ _ _ R _ (hR.below (Nat.le_refl _) hb1) (by omega)).mono ?_
  rintro e w2 ⟨a2, c2, rfl, h2, hb2⟩
  have hB2 : Below w.heap.size w w2 := hb1.trans (hb2.mono hb1.size)
  have hS2 : Strs w2 a1 n S := h1.below (Nat.le_refl _) hb2
  clear h1 hb1 hb2 h hR
  obtain ⟨i9, hi9, hz90, hz91, hz92⟩ := info_parts Try.info9
  go_wp2_with (first | (at_make; refine wpList_make_own _ rfl _ _ 22 rfl w2.heap.size 9 i9 _ 1 Try.underlying22 hi9 hz90 hz91 _ _ _ n rfl rfl rfl (by rw [hz92]; omega) hnm (Nat.le_refl _) ?_; intro w3 hown3 hg3))
  have hI3 : LInv w2 w3 S (livP (fun k => decide (k < nr) && R k) q) n 0 := ⟨(Below.refl _ _).grown hg3 (Nat.le_refl _) (fun k hk => by cases hk), by simpa [Lv] using hown3⟩
  clear hown3 hg3
  generalize hP : livP (fun k => decide (k < nr) && R k) q = P at hI3
  have HP : Hid (livP (fun k => decide (k < nr) && R k) q = P) := hP
  clear hP
  go_loopw [9, 10, 11] (fun v t i wr => ∃ k : Nat, k ≤ n ∧ i = .int .i64 k ∧ v = .slice (some ⟨w2.heap.size, 0, none⟩) (Lv S P k).length n ∧ t = .int .i64 (wantAt S P q k) ∧ Hid (LInv w2 wr S P n k)) (fun _ _ i _ => n - (intOf i).toNat)
  case atStart => exact ⟨0, Nat.zero_le _, rfl, rfl, by simp [wantAt, Lv], hI3⟩
  case round =>
    obtain ⟨k, hk, rfl, rfl, rfl, hI⟩ := hrel
    have hl := Lv_le S P k
    have hwl := wantAt_le S P q k
    by_cases hlt : k < n
    · by_cases hkq : k = q
      · have hdk : ((k : Int) == (q : Int)) = true := by simp [hkq]
        have HK : Hid (k = q) := hkq
        clear hkq
        go_wp2
        go_roundw
        case rel =>
          have hp : P k = false := by rw [← HP.out, HK.out]; exact livP_self _ _
          exact ⟨k + 1, by omega, by go_num, by rw [Lv_no hp], by rw [wantAt_no hp], hI.out.no hp⟩
        case measure => simp [intOf]; omega
      · have hdk : ((k : Int) == (q : Int)) = false := by simp; omega
        go_wp2_with fail
        refine (removed_any _ _ _ R k _ (h2.below (Nat.le_refl _) hI.out.bel) h20).mono ?_
        rintro e w4 ⟨rfl, hw⟩
        rw [hw]
        clear hw w4
        cases hr : (decide (k < nr) && R k)
        · have hp : P k = true := by rw [← HP.out]; exact livP_yes hkq hr
          clear hr
          obtain ⟨b, off, rfl, hc, hs⟩ := (hS2.below (Nat.le_refl _) hI.out.bel) k hlt
          have hown := hI.out.own.alloc (.cells #[.string (S k)] 9)
          by_cases hkq' : k < q
          · go_wp2_with (first | (at_builtin; refine wpList_append_fits _ rfl _ _ 22 rfl w2.heap.size 9 i9 1 Try.underlying22 hi9 hz91 w2.heap.size (Lv S P k).length n _ rfl hown ⟨wr.heap.size, 0, none⟩ 1 1 [.string (S k)] rfl rfl (cell_one_new _ _ _) (by intro u hu; simp at hu; subst hu; rfl) (by omega) ?_; intro w4 hown4 hg4))
            clear hown
            go_roundw
            case rel => exact ⟨k + 1, by omega, by go_num, by rw [Lv_yes hp]; simp, by rw [wantAt_yes hp hkq']; go_num, hI.out.yes hp hown4 hg4⟩
            case measure => simp [intOf]; omega
          · go_wp2_with (first | (at_builtin; refine wpList_append_fits _ rfl _ _ 22 rfl w2.heap.size 9 i9 1 Try.underlying22 hi9 hz91 w2.heap.size (Lv S P k).length n _ rfl hown ⟨wr.heap.size, 0, none⟩ 1 1 [.string (S k)] rfl rfl (cell_one_new _ _ _) (by intro u hu; simp at hu; subst hu; rfl) (by omega) ?_; intro w4 hown4 hg4))
            clear hown
            go_roundw
            case rel => exact ⟨k + 1, by omega, by go_num, by rw [Lv_yes hp]; simp, by rw [wantAt_past (by omega)], hI.out.yes hp hown4 hg4⟩
            case measure => simp [intOf]; omega
        · have hp : P k = false := by rw [← HP.out]; exact livP_removed hr
          clear hr
          go_wp2
          go_roundw
          case rel => exact ⟨k + 1, by omega, by go_num, by rw [Lv_no hp], by rw [wantAt_no hp], hI.out.no hp⟩
          case measure => simp [intOf]; omega
    · obtain rfl : n = k := by omega
      have hLs : Strs wr (some ⟨w2.heap.size, 0, none⟩) (Lv S P n).length (fun i => lAt (Lv S P n) i) := hI.out.strs (fun i hi => (hS2 i hi).choose_spec.choose_spec.2.2)
      have hLc : ∀ i, i < (Lv S P n).length → wr.cell? ⟨w2.heap.size, i, none⟩ = some (.string (lAt (Lv S P n) i)) ∧ (lAt (Lv S P n) i).size ≤ maxLen := by
        intro i hi
        obtain ⟨b, off, e, hc, hs⟩ := hLs i hi
        simp only [Option.some.injEq, Addr.mk.injEq] at e
        obtain ⟨rfl, rfl, _⟩ := e
        rw [Nat.zero_add] at hc
        exact ⟨hc, hs⟩
      have HLc : Hid _ := hLc
      have hBr : Below w.heap.size w wr := hB2.trans (hI.out.bel.mono hB2.size)
      clear hLc
      go_wp2
      go_loopw [12] (fun i w5 => ∃ k2 : Nat, k2 ≤ (Lv S P n).length ∧ i = .int .i64 k2 ∧ Hid (∃ m, w5 = wr.drewN m) ∧ Hid (∀ a b, a < k2 → a < b → b < (Lv S P n).length → sameB d (lAt (Lv S P n) a) (lAt (Lv S P n) b) = false)) (fun i _ => (Lv S P n).length - (intOf i).toNat)
      case atStart => exact ⟨0, Nat.zero_le _, rfl, ⟨0, rfl⟩, fun a b h => by omega⟩
      case round =>
        obtain ⟨k2, hk2, rfl, HD, hall⟩ := hrel
        by_cases hlt2 : k2 < (Lv S P n).length
        · go_wp2
          go_loopw [13] (fun i w6 => ∃ k3 : Nat, k2 + 1 ≤ k3 ∧ k3 ≤ (Lv S P n).length ∧ i = .int .i64 k3 ∧ Hid (∃ m, w6 = wr.drewN m) ∧ Hid (∀ b, k2 < b → b < k3 → sameB d (lAt (Lv S P n) k2) (lAt (Lv S P n) b) = false)) (fun i _ => (Lv S P n).length - (intOf i).toNat)
          case atStart => exact ⟨k2 + 1, Nat.le_refl _, by omega, by go_num, ⟨0, rfl⟩, fun b h1 h2 => by omega⟩
          case round =>
            obtain ⟨k3, hk3, hk3', rfl, HD2, hall2⟩ := hrel
            by_cases hlt3 : k3 < (Lv S P n).length
            · have g2 := ((drewN_cell (drewN_trans HD.out HD2.out) _).trans (HLc.out k2 hlt2).1)
              have g3 := ((drewN_cell (drewN_trans HD.out HD2.out) _).trans (HLc.out k3 hlt3).1)
              have hi2 : (k2 : Int) < ((Lv S P n).length : Int) := by omega
              have hi3 : (k3 : Int) < ((Lv S P n).length : Int) := by omega
              go_wp2
              go_quiet ((go_at_call 14; exact Calls.quiet_of (zzSame_any _ _ _ _ (HLc.out k2 hlt2).2 (HLc.out k3 hlt3).2)))
              go_wp2
              · go_ret
                exact ⟨rfl, drewN_below hBr (drews (drewN_trans HD.out HD2.out) nq)⟩
              · have hsm : sameB d (lAt (Lv S P n) k2) (lAt (Lv S P n) k3) = false := by assumption
                go_roundw
                case rel => exact ⟨k3 + 1, by omega, by omega, by go_num, drews HD2.out nq, pair_step hall2 hsm⟩
                case measure => simp [intOf]; omega
            · go_wp2
              go_roundw
              case rel => exact ⟨k2 + 1, by omega, by go_num, drewN_trans HD.out HD2.out, pairs_step hall (fun b h1 h2 => hall2.out b h1 (by omega))⟩
              case measure => simp [intOf]; omega
        · have hBd := drewN_all HD.out
          go_wp2_with fail
          refine (zzplace_any d _ _ _ (fun i => lAt (Lv S P n) i) _ _ _ S _ _ _ R q _ (hLs.below (Nat.le_refl _) hBd) (by omega) (hS2.below (Nat.le_refl _) (hI.out.bel.trans (hBd.mono hI.out.bel.size))) (by omega) (h2.below (Nat.le_refl _) (hI.out.bel.trans (hBd.mono hI.out.bel.size))) h20 (by omega)).mono ?_
          rintro e w7 ⟨⟨x, rfl, hx⟩, hb7⟩
          have hxw : x = (wantAt S P q n : Int) := by
            have el : wantAt S P q n = (Lv S P q).length := by unfold wantAt; rw [show min n q = q by omega]
            rw [el]
            have hP := HP.out
            subst hP
            exact place_law d S _ n q x (by omega) (fun a b h1 h2 => hall.out a b (by omega) h1 h2) hx
          have hbx : (x == (wantAt S P q n : Int)) = true := by simp [hxw]
          clear hxw hx
          go_wp2
          go_ret
          exact ⟨rfl, (drewN_below hBr HD.out).trans (hb7.mono (drewN_below hBr HD.out).size)⟩
end Go.Proofs.Qxb6001758a

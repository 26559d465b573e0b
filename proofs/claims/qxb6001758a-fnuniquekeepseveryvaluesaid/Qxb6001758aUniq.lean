/- (*Stanza).Unique -/
import Derived.Test.Qxb6001758aEarlier
import Derived.Test.Qxb6001758aUniqLaw
namespace Go.Proofs.Qxb6001758a
open Go.RowKit
open Go.Maps
set_option linter.unusedVariables false

/-- A list of fields as cells. -/
def fcells : List (ByteArray × ByteArray) → List Value
  | [] => []
  | p :: r => .string p.1 :: .string p.2 :: fcells r

theorem fcells_length : ∀ l, (fcells l).length = l.length * 2
  | [] => rfl
  | p :: r => by simp [fcells, fcells_length r]; omega
theorem fcells_append : ∀ l p, fcells (l ++ [p]) = fcells l ++ [.string p.1, .string p.2]
  | [], p => rfl
  | q :: r, p => by simp [fcells, fcells_append r p]
theorem fcells_name : ∀ l i p, l[i]? = some p → (fcells l)[i * 2]? = some (.string p.1)
  | q :: r, 0, p, h => by simp at h; subst h; rfl
  | q :: r, i + 1, p, h => by
    rw [show (i + 1) * 2 = i * 2 + 2 by omega]
    simpa [fcells] using fcells_name r i p (by simpa using h)
theorem fcells_value : ∀ l i p, l[i]? = some p → (fcells l)[i * 2 + 1]? = some (.string p.2)
  | q :: r, 0, p, h => by simp at h; subst h; rfl
  | q :: r, i + 1, p, h => by
    rw [show (i + 1) * 2 + 1 = i * 2 + 1 + 2 by omega]
    simpa [fcells] using fcells_value r i p (by simpa using h)
theorem fcells_set : ∀ l i p v, l[i]? = some p → (fcells l).set (i * 2 + 1) (.string v) = fcells (l.set i (p.1, v))
  | q :: r, 0, p, v, h => by simp at h; subst h; rfl
  | q :: r, i + 1, p, v, h => by
    rw [show (i + 1) * 2 + 1 = i * 2 + 1 + 2 by omega]
    simpa [fcells] using fcells_set r i p v (by simpa using h)

/-- The state of Unique's loop: the unique fields of the first k lie in the row of block ub; the box of names at nb. -/
structure UInv (d : Bool) (w wr : World) (nb ub n : Nat) (N V : Nat → ByteArray) (r : Option Nat) (k : Nat) : Prop where
  bel : Below w.heap.size w wr
  own : wr.ownsRow w.heap.size 33 2 (.slice (some ⟨ub, 0, none⟩) (Fs d N k).length n) (Fs d N k).length (fcells (Pk d N V k))
  est : EState d wr nb (Fs d N k).length (fun j => N ((Fs d N k).getD j 0)) r
  nbw : w.heap.size ≤ nb

theorem UInv.flds {d : Bool} {w wr : World} {nb ub n : Nat} {N V : Nat → ByteArray} {r : Option Nat} {k : Nat} (h : UInv d w wr nb ub n N V r k) (hN : ∀ i, i < k → (N i).size ≤ maxLen ∧ (V i).size ≤ maxLen) :
    Flds wr (some ⟨ub, 0, none⟩) (Fs d N k).length (fun j => N ((Fs d N k).getD j 0)) (fun j => V (lastB d N ((Fs d N k).getD j 0) k)) := by
  intro j hj
  have hm := Fs_mem (Fs_getD_mem hj)
  have hl := lastB_spec (d := d) (N := N) _ k hm.1
  refine ⟨ub, 0, rfl, ?_, ?_, (hN _ hm.1).1, (hN _ hl.1).2⟩
  · rw [Nat.zero_add, h.own.cellAt (j * 2) (by omega)]
    exact fcells_name _ j _ (Pk_at k j hj)
  · rw [Nat.zero_add, h.own.cellAt (j * 2 + 1) (by omega)]
    exact fcells_value _ j _ (Pk_at k j hj)

theorem two_new (w : World) (x y : Value) (t : TypeId) : ∀ j u, [x, y][j]? = some u → (w.alloc (.cells #[x, y] t)).cell? ((⟨w.heap.size, 0, none⟩ : Addr).add j) = some u := by
  intro j u hj
  rw [Addr.add_lit, Nat.zero_add]
  match j, hj with
  | 0, hj => simp at hj; subst hj; simp
  | 1, hj => simp at hj; subst hj; simp

theorem EState.grown {d : Bool} {w w' : World} {nb n : Nat} {N : Nat → ByteArray} {r : Option Nat} {ub : Nat} (h : EState d w nb n N r) (hg : w.grownBy w' (some ub)) (h1 : ub ≠ nb) (h2 : ∀ mb, r = some mb → ub ≠ mb) : EState d w' nb n N r := by
  have hl : nb < w.heap.size := (Array.getElem?_eq_some_iff.1 h.1).1
  refine ⟨(hg.block nb hl (by simp; omega)).trans h.1, fun mb e => ?_⟩
  obtain ⟨h3, h4, D, hD, hM⟩ := h.2 mb e
  exact ⟨h3, h4, D, hD.kept hg (by have := h2 mb e; simp; omega), hM⟩

theorem EState.alloc {d : Bool} {w : World} {nb n : Nat} {N : Nat → ByteArray} {r : Option Nat} (h : EState d w nb n N r) (o : Obj) : EState d (w.alloc o) nb n N r := h.below ((Below.refl _ _).alloc (Nat.le_refl _) o)

theorem EState.row_ne {d : Bool} {w : World} {nb n : Nat} {N : Nat → ByteArray} {r : Option Nat} {ub : Nat} {cur : Array Value} (h : EState d w nb n N r) (hr : w.heap[ub]? = some (.cells cur 33 (0, 0))) : ub ≠ nb ∧ ∀ mb, r = some mb → ub ≠ mb := by
  refine ⟨fun e => ?_, fun mb e e2 => ?_⟩
  · subst e; rw [h.1] at hr; simp at hr
  · obtain ⟨_, _, D, ⟨es, c, hm, _⟩, _⟩ := h.2 mb e
    subst e2; rw [hr] at hm; simp at hm

theorem own_block {w : World} {base ub m cap : Nat} {xs : List Value} (h : w.ownsRow base 33 2 (.slice (some ⟨ub, 0, none⟩) m cap) m xs) : base ≤ ub ∧ ∃ cur, w.heap[ub]? = some (.cells cur 33 (0, 0)) := by
  rcases h.2 with ⟨e, _⟩ | ⟨g, cap', cur, e, hb, hg, _⟩
  · simp at e
  · simp only [Value.slice.injEq, Option.some.injEq, Addr.mk.injEq, and_true, true_and] at e
    obtain ⟨rfl, _⟩ := e
    exact ⟨hb, cur, hg⟩

theorem own_keeps {d : Bool} {w w' : World} {nb n : Nat} {N : Nat → ByteArray} {r : Option Nat} {base ub m cap : Nat} {xs : List Value} (h : w.ownsRow base 33 2 (.slice (some ⟨ub, 0, none⟩) m cap) m xs) (hE : EState d w nb n N r) (hK : KeepsBut nb r w w') :
    w'.ownsRow base 33 2 (.slice (some ⟨ub, 0, none⟩) m cap) m xs := by
  obtain ⟨_, cur, hc⟩ := own_block h
  obtain ⟨h1, h2⟩ := hE.row_ne hc
  have hb := hK.block ub (Array.getElem?_eq_some_iff.1 hc).1 h1 (fun e => h2 ub e.symm rfl)
  refine ⟨h.1, ?_⟩
  rcases h.2 with ⟨e, _⟩ | ⟨g, cap', cur', e, hbg, hg, rest⟩
  · simp at e
  · simp only [Value.slice.injEq, Option.some.injEq, Addr.mk.injEq, and_true, true_and] at e
    obtain ⟨rfl, rfl⟩ := e
    exact .inr ⟨_, _, cur', rfl, hbg, hb.trans hg, rest⟩

theorem UInv.start {d : Bool} {w w3 : World} {n : Nat} {N V : Nat → ByteArray} (hown : w3.ownsRow w.heap.size 33 2 (.slice (some ⟨w.heap.size + 1, 0, none⟩) 0 n) 0 []) (hg : (w.alloc (.cells #[.int .u8 (rl d), .map none] 48)).grownBy w3 none) :
    UInv d w w3 w.heap.size (w.heap.size + 1) n N V none 0 := by
  refine ⟨((Below.refl _ w).alloc (Nat.le_refl _) _).grown hg (by simp) (fun k hk => by cases hk), by simpa [Fs, Pk, fcells] using hown, ⟨?_, fun mb e => by cases e⟩, Nat.le_refl _⟩
  rw [hg.block w.heap.size (by simp) (by simp)]
  exact Deep.blk_alloc_new _ _

/-- Behind the call of earlier: what is kept. -/
theorem UInv.kept {d : Bool} {w wr w2 : World} {nb ub n : Nat} {N V : Nat → ByteArray} {r : Option Nat} {k : Nat} {o : Obj} (h : UInv d w wr nb ub n N V r k) (hK : KeepsBut nb r (wr.alloc o) w2) :
    Below w.heap.size w w2 ∧ w2.ownsRow w.heap.size 33 2 (.slice (some ⟨ub, 0, none⟩) (Fs d N k).length n) (Fs d N k).length (fcells (Pk d N V k)) := by
  have hB := h.bel.alloc h.bel.size o
  refine ⟨⟨hK.os.trans hB.os, hK.tape.trans hB.tape, hK.output.trans hB.output, Nat.le_trans hB.size hK.size, fun k' hk => ?_⟩, own_keeps (h.own.alloc o) (h.est.alloc o) hK⟩
  refine (hK.block k' (Nat.lt_of_lt_of_le hk hB.size) (by have := h.nbw; omega) fun e => ?_).trans (hB.block k' hk)
  obtain ⟨_, h2, _⟩ := h.est.2 k' e.symm
  have := h.nbw
  omega

theorem UInv.found {d : Bool} {w w2 : World} {nb ub n : Nat} {N V : Nat → ByteArray} {r' : Option Nat} {k i : Nat} (hB : Below w.heap.size w w2) (hown : w2.ownsRow w.heap.size 33 2 (.slice (some ⟨ub, 0, none⟩) (Fs d N k).length n) (Fs d N k).length (fcells (Pk d N V k)))
    (hE : EState d w2 nb (Fs d N k).length (fun j => N ((Fs d N k).getD j 0)) r') (hnb : w.heap.size ≤ nb) (hi : i < (Fs d N k).length) (hs : sameB d (N ((Fs d N k).getD i 0)) (N k) = true) :
    UInv d w (w2.setCell ⟨ub, i * 2 + 1, none⟩ (.string (V k))) nb ub n N V r' (k + 1) := by
  obtain ⟨hub, cur, hc⟩ := own_block hown
  obtain ⟨h1, h2⟩ := hE.row_ne hc
  obtain ⟨s1, s2⟩ := hown.stored (i * 2 + 1) (.string (V k))
  rw [fcells_set _ i _ _ (Pk_at k i hi), Pk_found hi hs] at s1
  have hf := Fs_no (Fs_not_first hi hs)
  refine ⟨hB.setCell hub _, ?_, ?_, hnb⟩
  · rw [hf]; exact s1
  · rw [hf]; exact hE.grown s2 h1 h2

theorem UInv.new {d : Bool} {w w2 w4 : World} {nb ub n : Nat} {N V : Nat → ByteArray} {r' : Option Nat} {k : Nat} {o : Obj} (hB : Below w.heap.size w w2) (hown : w2.ownsRow w.heap.size 33 2 (.slice (some ⟨ub, 0, none⟩) (Fs d N k).length n) (Fs d N k).length (fcells (Pk d N V k)))
    (hE : ∀ N', (∀ i, i < (Fs d N k).length → N' i = N ((Fs d N k).getD i 0)) → N' (Fs d N k).length = N k → EState d w2 nb ((Fs d N k).length + 1) N' r') (hnb : w.heap.size ≤ nb)
    (hno : ∀ j, j < (Fs d N k).length → sameB d (N ((Fs d N k).getD j 0)) (N k) = false)
    (h4 : w4.ownsRow w.heap.size 33 2 (.slice (some ⟨ub, 0, none⟩) ((Fs d N k).length + 1) n) ((Fs d N k).length + 1) (fcells (Pk d N V k) ++ [.string (N k), .string (V k)])) (hg : (w2.alloc o).grownBy w4 (some ub)) :
    UInv d w w4 nb ub n N V r' (k + 1) := by
  have hf := Fs_yes (Fs_first hno)
  have hlen : (Fs d N (k + 1)).length = (Fs d N k).length + 1 := by rw [hf]; simp
  have hE' : EState d w2 nb (Fs d N (k + 1)).length (fun j => N ((Fs d N (k + 1)).getD j 0)) r' := by
    rw [hlen]
    refine hE _ (fun i hi => ?_) ?_
    · rw [hf]; simp [List.getD, List.getElem?_append_left hi]
    · rw [hf]; simp [List.getD]
  obtain ⟨hub, cur, hc⟩ := own_block hown
  obtain ⟨h1, h2⟩ := hE'.row_ne hc
  refine ⟨(hB.alloc hB.size o).grown hg (by have := hB.size; simp; omega) (fun k' e => by cases e; exact hub), ?_, (hE'.alloc o).grown hg h1 h2, hnb⟩
  rw [hlen, ← Pk_new hno, fcells_append]
  exact h4

set_option maxHeartbeats 1600000 in
theorem unique_any (d : Bool) (sb : Nat) (a : Option Addr) (n c : Nat) (N V : Nat → ByteArray) (w : World) (h : Flds w a n N V) (hn : n ≤ 4096) (hN : ∀ i, i < n → (N i).size ≤ 1048576)
    (h0 : w.cell? ⟨sb, 0, none⟩ = some (.slice a n c)) (h2 : w.cell? ⟨sb, 2, none⟩ = some (.int .u8 (rl d))) :
    Calls Try.prog 13 #[.pointer (some ⟨sb, 0, none⟩)] w fun e w' => (∃ g, e = .returned (.slice (some ⟨g, 0, none⟩) (Fs d N n).length n) ∧
      Flds w' (some ⟨g, 0, none⟩) (Fs d N n).length (fun j => N ((Fs d N n).getD j 0)) (fun j => V (lastB d N ((Fs d N n).getD j 0) n))) ∧ Below w.heap.size w w' := by
  have sbl := World.block_lt_of_cell? _ _ h0
  simp only at sbl
  have sbn : ¬ sb = w.heap.size := by omega
  obtain ⟨i33, hi33, hz330, hz331, hz332⟩ := info_parts Try.info33
  go_enter Try.func13, Try.ntmps13
  go_wp2_with (at_make; refine wpList_make_own _ rfl _ _ 26 rfl w.heap.size 33 i33 _ 2 Try.underlying26 hi33 hz330 hz331 _ _ _ n rfl rfl rfl (by rw [hz332]; omega) (by unfold maxLen; omega) (by simp) ?_)
  intro w3 hown3 hg3
  have hU := UInv.start (N := N) (V := V) hown3 hg3
  have s0 := (hU.bel.cell (p := ⟨sb, 0, none⟩) sbl).trans h0
  clear hown3 hg3
  have HU : Hid _ := hU
  clear hU
  go_wp2
  go_loopw [4, 24] (fun u i wr => ∃ (k : Nat) (r : Option Nat), k ≤ n ∧ i = .int .i64 k ∧ u = .slice (some ⟨w.heap.size + 1, 0, none⟩) (Fs d N k).length n ∧ Hid (UInv d w wr w.heap.size (w.heap.size + 1) n N V r k)) (fun _ i _ => n - (intOf i).toNat)
  case atStart => exact ⟨0, none, Nat.zero_le _, rfl, rfl, HU⟩
  case round =>
    obtain ⟨k, r, hk, rfl, rfl, hI⟩ := hrel
    have hl := Fs_length (d := d) (N := N) k
    by_cases hlt : k < n
    · obtain ⟨b, off, rfl, hc, hc', hsN, hsV⟩ := (h.below (Nat.le_refl _) hI.out.bel) k hlt
      have hszk := hN k hlt
      have hmx : ∀ i, i < k → (N i).size ≤ maxLen ∧ (V i).size ≤ maxLen := fun i hi => (h i (by omega)).choose_spec.choose_spec.2.2.2
      have HX : Hid _ := hmx
      clear hmx
      go_wp2_with fail
      refine (earlier_any d w.heap.size _ _ _ (fun j => N ((Fs d N k).getD j 0)) (fun j => V (lastB d N ((Fs d N k).getD j 0) k)) (N k) r _ ((hI.out.flds HX.out).below (Nat.le_refl _) ((Below.refl _ _).alloc (Nat.le_refl _) _)) (by omega) hszk (fun i hi => hN _ (by have := (Fs_mem (Fs_getD_mem hi)).1; omega)) (hI.out.est.alloc _) (fun i j h1 h2 => Fs_pw k i j h1 h2)).mono ?_
      rintro e w2 ⟨x, rfl, hx, hK, r', hr', he1, he2⟩
      obtain ⟨hB2, hown2⟩ := hI.out.kept hK
      have fb1 : w2.cell? ⟨wr.heap.size, 1, none⟩ = some (.string (V k)) := str_keeps (hI.out.est.alloc _) hK (by simp)
      have fb0 : w2.cell? ⟨wr.heap.size, 0, none⟩ = some (.string (N k)) := str_keeps (hI.out.est.alloc _) hK (by simp)
      clear hr' hK
      have hnb := hI.out.nbw
      rcases hx with ⟨rfl, hno⟩ | ⟨i, rfl, hi, hsm, _⟩
      · have HE : Hid _ := he2 (by omega)
        have HN : Hid (∀ j, j < (Fs d N k).length → sameB d (N ((Fs d N k).getD j 0)) (N k) = false) := hno
        have HO : Hid _ := hown2
        clear he1 he2 hno
        have hown := hown2.alloc (.cells #[.string (N k), .string (V k)] 33)
        clear hown2
        go_wp2_with (at_builtin; refine wpList_append_fits _ rfl _ _ 26 rfl w.heap.size 33 i33 2 Try.underlying26 hi33 hz331 (w.heap.size + 1) (Fs d N k).length n _ rfl hown ⟨w2.heap.size, 0, none⟩ 1 1 [.string (N k), .string (V k)] rfl rfl (two_new _ _ _ _) (by intro u hu; simp at hu; rcases hu with rfl | rfl <;> rfl) (by omega) ?_)
        intro w4 hown4 hg4
        clear hown
        go_wp2
        go_roundw
        case rel =>
          have hlen : (Fs d N (k + 1)).length = (Fs d N k).length + 1 := by rw [Fs_yes (Fs_first HN.out)]; simp
          exact ⟨k + 1, r', by omega, by go_num, by rw [hlen], UInv.new hB2 HO.out HE.out hnb HN.out hown4 hg4⟩
        case measure => simp [intOf]; omega
      · have HE : Hid _ := he1 (by omega)
        have HS : Hid (sameB d (N ((Fs d N k).getD i 0)) (N k) = true) := hsm
        have HO : Hid _ := hown2
        have hcell := hown2.cellAt (i * 2 + 1) (by omega)
        have hcell' := hcell.trans (fcells_value _ i _ (Pk_at k i hi))
        have hfr := hown2.frozenAt (i * 2 + 1)
        clear he1 he2 hsm hown2 hcell
        go_wp2
        go_roundw
        case rel =>
          have hlen : (Fs d N (k + 1)).length = (Fs d N k).length := by rw [Fs_no (Fs_not_first hi HS.out)]
          exact ⟨k + 1, r', by omega, by go_num, by rw [hlen], UInv.found hB2 HO.out HE.out hnb hi HS.out⟩
        case measure => simp [intOf]; omega
    · obtain rfl : n = k := by omega
      have hmx : ∀ i, i < n → (N i).size ≤ maxLen ∧ (V i).size ≤ maxLen := fun i hi => (h i (by omega)).choose_spec.choose_spec.2.2.2
      have HX : Hid _ := hmx
      clear hmx
      go_wp2
      go_ret
      exact ⟨⟨_, rfl, hI.out.flds HX.out⟩, hI.out.bel⟩
end Go.Proofs.Qxb6001758a

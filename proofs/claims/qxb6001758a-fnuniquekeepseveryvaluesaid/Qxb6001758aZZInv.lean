/- What ZZPlace lays in memory. -/
import Derived.Test.Qxb6001758aPlace
namespace Go.Proofs.Qxb6001758a
open Go.RowKit
set_option linter.unusedVariables false

theorem Try.info33 : (Try.prog.info? 33).map (fun i => (i.zero, i.size, i.bytes)) = some (some (.agg #[.string ByteArray.empty, .string ByteArray.empty]), 2, 32) := by kernel_rfl
theorem Try.info60 : (Try.prog.info? 60).map (fun i => (i.zero, i.size, i.bytes)) = some (some (.agg #[.string ByteArray.empty, .int .i64 0, .int .i64 0, .string ByteArray.empty, .bool false, .bool false]), 6, 56) := by kernel_rfl

theorem run_make_any {P : Program} (t e : TypeId) (z : Value) (size bytes : Nat) (ht : P.underlying t = some (.slice e)) (hinfo : (P.info? e).map (fun i => (i.zero, i.size, i.bytes)) = some (some z, size, bytes))
    (kl kc : IntKind) (n : Nat) (hbytes : bytes * n ≤ 281474976710656) (h63 : n ≤ 9223372036854775807) (w : World) :
    (Instr.makeSlice t (.int kl (n : Int)) (.int kc (n : Int))).run P w = .ok (.slice (some ⟨w.heap.size, 0, none⟩) n n) (w.alloc (.cells (madeCells z.cells (n * size)) e)) := by
  obtain ⟨i, hi, hz, hs, hb⟩ := info_parts hinfo
  have hb' : (i.bytes : Int) * (n : Int) ≤ 281474976710656 := by
    have h : ((i.bytes * n : Nat) : Int) ≤ 281474976710656 := by rw [hb]; omega
    rwa [Int.natCast_mul] at h
  have hr := run_make (P := P) w t e i z ht hi hz kl kc n n (by omega) (Int.le_refl _) hb' (by omega)
  simp only [Int.toNat_natCast, hs] at hr
  exact hr

theorem rowIs_made_any (w : World) (z : Array Value) (n : Nat) (t : TypeId) (hz : 0 < z.size) : (w.alloc (.cells (madeCells z n) t)).rowIs w.heap.size t n (fun i => z[i % z.size]!) :=
  ⟨_, Deep.blk_alloc_new _ _, size_madeCells _ _, fun i hi => by simp [madeCells, hi]⟩

/-- Cell i of a row of fields of which k are laid: names L, values empty. -/
def fldCell (L : Nat → ByteArray) (k i : Nat) : Value := if i < k * 2 ∧ i % 2 = 0 then .string (L (i / 2)) else .string ByteArray.empty

/-- The state of the first loop: k fields laid. -/
structure Inv1 (w wr : World) (n k : Nat) (L : Nat → ByteArray) (r : Int) : Prop where
  bel : Below w.heap.size w wr
  row : wr.rowIs w.heap.size 33 (n * 2) (fldCell L k)
  box : wr.heap[w.heap.size + 1]? = some (.cells #[.slice (some ⟨w.heap.size, 0, none⟩) n n, .int .u8 0, .int .u8 r, .string ByteArray.empty] 45 (0, 0))
  size : wr.heap.size = w.heap.size + 2

theorem Inv1.start (w : World) (n : Nat) (L : Nat → ByteArray) (r : Int) :
    Inv1 w ((w.alloc (.cells (madeCells #[.string ByteArray.empty, .string ByteArray.empty] (n * 2)) 33)).alloc (.cells #[.slice (some ⟨w.heap.size, 0, none⟩) n n, .int .u8 0, .int .u8 r, .string ByteArray.empty] 45)) n 0 L r := by
  refine ⟨((Below.refl _ _).alloc (Nat.le_refl _) _).alloc (by simp) _, ?_, ?_, by simp⟩
  · refine World.rowIs.alloc (World.rowIs.congr (rowIs_made_any _ _ _ _ (by simp)) fun i hi => ?_) _
    have : i % 2 = 0 ∨ i % 2 = 1 := by omega
    rcases this with e | e <;> simp [fldCell, e]
  · have := Deep.blk_alloc_new (w.alloc (.cells (madeCells #[.string ByteArray.empty, .string ByteArray.empty] (n * 2)) 33)) (.cells #[.slice (some ⟨w.heap.size, 0, none⟩) n n, .int .u8 0, .int .u8 r, .string ByteArray.empty] 45)
    simpa using this

theorem Inv1.step {w wr : World} {n k : Nat} {L : Nat → ByteArray} {r : Int} (h : Inv1 w wr n k L r) :
    Inv1 w (((wr.setCell ⟨w.heap.size, k * 2, none⟩ (.string (L k))).setCell ⟨w.heap.size, k * 2 + 1, none⟩ (.string ByteArray.empty)).drew) n (k + 1) L r := by
  refine ⟨((h.bel.setCell (Nat.le_refl _) _).setCell (Nat.le_refl _) _).drew, ?_, ?_, ?_⟩
  · refine World.rowIs.drew (World.rowIs.congr ((h.row.set (k * 2) _).set (k * 2 + 1) _) fun i hi => ?_)
    by_cases e1 : i = k * 2 + 1
    · rw [if_pos e1]; unfold fldCell; rw [if_neg (by omega)]
    · rw [if_neg e1]
      by_cases e0 : i = k * 2
      · rw [if_pos e0]; unfold fldCell; rw [if_pos (by omega), e0]; simp
      · rw [if_neg e0]; unfold fldCell
        by_cases e2 : i < k * 2 ∧ i % 2 = 0
        · rw [if_pos e2, if_pos (by omega)]
        · rw [if_neg e2, if_neg (by omega)]
  · show (((wr.setCell ⟨w.heap.size, k * 2, none⟩ (.string (L k))).setCell ⟨w.heap.size, k * 2 + 1, none⟩ (.string ByteArray.empty))).heap[w.heap.size + 1]? = _
    rw [Below.heap_setCell _ _ _ _ (by simp), Below.heap_setCell _ _ _ _ (by simp)]
    exact h.box
  · show (((wr.setCell ⟨w.heap.size, k * 2, none⟩ (.string (L k))).setCell ⟨w.heap.size, k * 2 + 1, none⟩ (.string ByteArray.empty))).heap.size = _
    simp [World.setCell, h.size]

theorem Inv1.flds {w wr : World} {n : Nat} {L : Nat → ByteArray} {r : Int} (h : Inv1 w wr n n L r) (hs : ∀ i, i < n → (L i).size ≤ maxLen) : Flds wr (some ⟨w.heap.size, 0, none⟩) n L (fun _ => ByteArray.empty) := by
  intro i hi
  have c0 := h.row.cell (i := i * 2) (by omega)
  have c1 := h.row.cell (i := i * 2 + 1) (by omega)
  refine ⟨_, _, rfl, ?_, ?_, hs i hi, Nat.zero_le _⟩
  · rw [Nat.zero_add, c0]; unfold fldCell; rw [if_pos (by omega), show i * 2 / 2 = i by omega]
  · rw [Nat.zero_add, c1]; unfold fldCell; rw [if_neg (by omega)]

theorem blk_other {w : World} {a : Addr} {v : Value} {k : Nat} {o : Option Obj} (h : w.heap[k]? = o) (hk : k ≠ a.block) : (w.setCell a v).heap[k]? = o := (Below.heap_setCell _ _ _ _ hk).trans h
theorem blk_drew {w : World} {k : Nat} {o : Option Obj} (h : w.heap[k]? = o) : w.drew.heap[k]? = o := h

/-- Cell i of a row of field texts of which k are laid. -/
def ftCell (N : Nat → ByteArray) (R : Nat → Bool) (k i : Nat) : Value :=
  if i % 6 = 0 then .string (if i < k * 6 then N (i / 6) else ByteArray.empty) else if i % 6 = 3 then .string ByteArray.empty else if i % 6 = 4 then .bool false
  else if i % 6 = 5 then .bool (if i < k * 6 then R (i / 6) else false) else .int .i64 0

/-- The state of the second loop: k field texts laid. -/
structure Inv2 (w wr : World) (m k : Nat) (N : Nat → ByteArray) (R : Nat → Bool) (p : Value) (r : Int) : Prop where
  bel : Below w.heap.size w wr
  row : wr.rowIs w.heap.size 60 (m * 6) (ftCell N R k)
  box : wr.heap[w.heap.size + 1]? = some (.cells #[p, .bool false, .bool false, .bool false, .bool false, .bool false, .bool false, .bool false, .bool false, .bool false, .bool false, .int .u8 r, .string ByteArray.empty, .slice none 0 0, .slice (some ⟨w.heap.size, 0, none⟩) m m] 58 (0, 0))

theorem Inv2.start (w : World) (m : Nat) (N : Nat → ByteArray) (R : Nat → Bool) (p : Value) (r : Int) :
    Inv2 w ((w.alloc (.cells (madeCells #[.string ByteArray.empty, .int .i64 0, .int .i64 0, .string ByteArray.empty, .bool false, .bool false] (m * 6)) 60)).alloc
      (.cells #[p, .bool false, .bool false, .bool false, .bool false, .bool false, .bool false, .bool false, .bool false, .bool false, .bool false, .int .u8 r, .string ByteArray.empty, .slice none 0 0, .slice (some ⟨w.heap.size, 0, none⟩) m m] 58)) m 0 N R p r := by
  refine ⟨((Below.refl _ _).alloc (Nat.le_refl _) _).alloc (by simp) _, ?_, ?_⟩
  · refine World.rowIs.alloc (World.rowIs.congr (rowIs_made_any _ _ _ _ (by simp)) fun i hi => ?_) _
    have : i % 6 = 0 ∨ i % 6 = 1 ∨ i % 6 = 2 ∨ i % 6 = 3 ∨ i % 6 = 4 ∨ i % 6 = 5 := by omega
    rcases this with e | e | e | e | e | e <;> simp [ftCell, e]
  · have := Deep.blk_alloc_new (w.alloc (.cells (madeCells #[.string ByteArray.empty, .int .i64 0, .int .i64 0, .string ByteArray.empty, .bool false, .bool false] (m * 6)) 60)) (.cells #[p, .bool false, .bool false, .bool false, .bool false, .bool false, .bool false, .bool false, .bool false, .bool false, .bool false, .int .u8 r, .string ByteArray.empty, .slice none 0 0, .slice (some ⟨w.heap.size, 0, none⟩) m m] 58)
    simpa using this

theorem ftCell_at0 (N : Nat → ByteArray) (R : Nat → Bool) (k i : Nat) (h : i < k) : ftCell N R k (i * 6) = .string (N i) := by
  unfold ftCell; rw [if_pos (by omega), if_pos (by omega), show i * 6 / 6 = i by omega]
theorem ftCell_at1 (N : Nat → ByteArray) (R : Nat → Bool) (k i : Nat) : ftCell N R k (i * 6 + 1) = .int .i64 0 := by
  unfold ftCell; rw [if_neg (by omega), if_neg (by omega), if_neg (by omega), if_neg (by omega)]
theorem ftCell_at2 (N : Nat → ByteArray) (R : Nat → Bool) (k i : Nat) : ftCell N R k (i * 6 + 2) = .int .i64 0 := by
  unfold ftCell; rw [if_neg (by omega), if_neg (by omega), if_neg (by omega), if_neg (by omega)]
theorem ftCell_at3 (N : Nat → ByteArray) (R : Nat → Bool) (k i : Nat) : ftCell N R k (i * 6 + 3) = .string ByteArray.empty := by
  unfold ftCell; rw [if_neg (by omega), if_pos (by omega)]
theorem ftCell_at4 (N : Nat → ByteArray) (R : Nat → Bool) (k i : Nat) : ftCell N R k (i * 6 + 4) = .bool false := by
  unfold ftCell; rw [if_neg (by omega), if_neg (by omega), if_pos (by omega)]
theorem ftCell_at5 (N : Nat → ByteArray) (R : Nat → Bool) (k i : Nat) (h : i < k) : ftCell N R k (i * 6 + 5) = .bool (R i) := by
  unfold ftCell; rw [if_neg (by omega), if_neg (by omega), if_neg (by omega), if_pos (by omega), if_pos (by omega), show (i * 6 + 5) / 6 = i by omega]

theorem ftCell_old (N : Nat → ByteArray) (R : Nat → Bool) (k i : Nat) (h : i < k * 6 ∨ k * 6 + 6 ≤ i) : ftCell N R k i = ftCell N R (k + 1) i := by
  unfold ftCell
  rcases h with h | h
  · rw [if_pos (show i < k * 6 by omega), if_pos (show i < (k + 1) * 6 by omega), if_pos (show i < k * 6 by omega), if_pos (show i < (k + 1) * 6 by omega)]
  · rw [if_neg (show ¬ i < k * 6 by omega), if_neg (show ¬ i < (k + 1) * 6 by omega), if_neg (show ¬ i < k * 6 by omega), if_neg (show ¬ i < (k + 1) * 6 by omega)]

theorem Inv2.step {w wr : World} {m k : Nat} {N : Nat → ByteArray} {R : Nat → Bool} {p : Value} {r : Int} {x : Bool} (h : Inv2 w wr m k N R p r) (hx : R k = x) :
    Inv2 w (((((((wr.setCell ⟨w.heap.size, k * 6, none⟩ (.string (N k))).setCell ⟨w.heap.size, k * 6 + 1, none⟩ (.int .i64 0)).setCell ⟨w.heap.size, k * 6 + 2, none⟩ (.int .i64 0)).setCell ⟨w.heap.size, k * 6 + 3, none⟩ (.string ByteArray.empty)).setCell ⟨w.heap.size, k * 6 + 4, none⟩ (.bool false)).setCell ⟨w.heap.size, k * 6 + 5, none⟩ (.bool x)).drew) m (k + 1) N R p r := by
  subst hx
  refine ⟨((((((h.bel.setCell (Nat.le_refl _) _).setCell (Nat.le_refl _) _).setCell (Nat.le_refl _) _).setCell (Nat.le_refl _) _).setCell (Nat.le_refl _) _).setCell (Nat.le_refl _) _).drew, ?_, ?_⟩
  · refine World.rowIs.drew (World.rowIs.congr ((((((h.row.set (k * 6) _).set (k * 6 + 1) _).set (k * 6 + 2) _).set (k * 6 + 3) _).set (k * 6 + 4) _).set (k * 6 + 5) _) fun i hi => ?_)
    by_cases e5 : i = k * 6 + 5
    · rw [if_pos e5, e5, ftCell_at5 _ _ _ _ (by omega)]
    rw [if_neg e5]
    by_cases e4 : i = k * 6 + 4
    · rw [if_pos e4, e4, ftCell_at4]
    rw [if_neg e4]
    by_cases e3 : i = k * 6 + 3
    · rw [if_pos e3, e3, ftCell_at3]
    rw [if_neg e3]
    by_cases e2 : i = k * 6 + 2
    · rw [if_pos e2, e2, ftCell_at2]
    rw [if_neg e2]
    by_cases e1 : i = k * 6 + 1
    · rw [if_pos e1, e1, ftCell_at1]
    rw [if_neg e1]
    by_cases e0 : i = k * 6
    · rw [if_pos e0, e0, ftCell_at0 _ _ _ _ (by omega)]
    rw [if_neg e0]
    exact ftCell_old N R k i (by omega)
  · exact blk_drew (blk_other (blk_other (blk_other (blk_other (blk_other (blk_other h.box (by simp)) (by simp)) (by simp)) (by simp)) (by simp)) (by simp))

theorem Inv2.fts {w wr : World} {m : Nat} {N : Nat → ByteArray} {R : Nat → Bool} {p : Value} {r : Int} (h : Inv2 w wr m m N R p r) (hs : ∀ i, i < m → (N i).size ≤ maxLen) : FTs wr (some ⟨w.heap.size, 0, none⟩) m N R := by
  intro i hi
  refine ⟨_, _, rfl, ?_, ?_, ?_, ?_, ?_, ?_, hs i hi⟩
  · rw [Nat.zero_add, h.row.cell (i := i * 6) (by omega), ftCell_at0 _ _ _ _ hi]
  · rw [Nat.zero_add, h.row.cell (i := i * 6 + 1) (by omega), ftCell_at1]
  · rw [Nat.zero_add, h.row.cell (i := i * 6 + 2) (by omega), ftCell_at2]
  · rw [Nat.zero_add, h.row.cell (i := i * 6 + 3) (by omega), ftCell_at3]
  · rw [Nat.zero_add, h.row.cell (i := i * 6 + 4) (by omega), ftCell_at4]
  · rw [Nat.zero_add, h.row.cell (i := i * 6 + 5) (by omega), ftCell_at5 _ _ _ _ hi]

end Go.Proofs.Qxb6001758a

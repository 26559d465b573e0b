/- Family. -/
import Derived.Test.Qxb6600728aRows
import Derived.WalkKit
import Derived.WalkSpells
import Derived.WalkLawsBesides
import Derived.Below
import Derived.Lib.AppendStr
namespace Go.Proofs.Qxb6600728a
open Go.RowKit
set_option linter.unusedVariables false

theorem Try.info5 : (Try.prog.info? 5).map (fun i => (i.zero, i.size, i.bytes)) = some (some (.int .u8 0), 1, 1) := by kernel_rfl

/-- Bytes as cells. -/
def byteV (l : List UInt8) : List Value := l.map fun b => Value.int .u8 (b.toNat : Int)
theorem byteV_append (a b : List UInt8) : byteV a ++ byteV b = byteV (a ++ b) := by simp [byteV]
theorem strCells_byteV (s : ByteArray) : Lib.strCells s = byteV s.data.toList := rfl

/-- The writer at block wb: its buffer v holds the bytes L; its family is fam. -/
structure WSt (wb : Nat) (w : World) (L : List UInt8) (fam : ByteArray) (v : Value) : Prop where
  box : w.heap[wb]? = some (.cells #[v, .string fam] 27 (0, 0))
  own : w.ownsRow (wb + 1) 5 1 v L.length (byteV L)

theorem WSt.ne {wb : Nat} {w : World} {L : List UInt8} {fam : ByteArray} {v : Value} (h : WSt wb w L fam v) : some wb ≠ v.ownBlock := by
  intro e
  have := (h.own.lt wb e.symm).1
  omega

theorem WSt.lt {wb : Nat} {w : World} {L : List UInt8} {fam : ByteArray} {v : Value} (h : WSt wb w L fam v) : wb < w.heap.size := (Array.getElem?_eq_some_iff.1 h.box).1

theorem WSt.cell0 {wb : Nat} {w : World} {L : List UInt8} {fam : ByteArray} {v : Value} (h : WSt wb w L fam v) : w.cell? ⟨wb, 0, none⟩ = some v := by simp [World.cell?, h.box]
theorem WSt.cell1 {wb : Nat} {w : World} {L : List UInt8} {fam : ByteArray} {v : Value} (h : WSt wb w L fam v) : w.cell? ⟨wb, 1, none⟩ = some (.string fam) := by simp [World.cell?, h.box]
theorem WSt.fr {wb : Nat} {w : World} {L : List UInt8} {fam : ByteArray} {v : Value} (h : WSt wb w L fam v) (o : Nat) : w.frozen? ⟨wb, o, none⟩ = false := by simp [World.frozen?, h.box]

/-- The family is set. -/
theorem WSt.named {wb : Nat} {w : World} {L : List UInt8} {fam : ByteArray} {v : Value} (h : WSt wb w L fam v) (s : ByteArray) : WSt wb (w.setCell ⟨wb, 1, none⟩ (.string s)) L s v :=
  ⟨by rw [heap_setCell_same w wb 1 _ 27 _ h.box]; rfl, ownsRow_setCell_below h.own (by simp) _⟩

/-- Behind an append: the box is as it was. -/
theorem WSt.mid {wb : Nat} {w w1 : World} {L : List UInt8} {fam : ByteArray} {v : Value} (h : WSt wb w L fam v) (hg : w.grownBy w1 v.ownBlock) : w1.heap[wb]? = some (.cells #[v, .string fam] 27 (0, 0)) :=
  (hg.block wb h.lt h.ne).trans h.box

/-- Behind the store of the new buffer. -/
theorem WSt.stored {wb : Nat} {w1 : World} {L : List UInt8} {fam : ByteArray} {v v' : Value} (hb : w1.heap[wb]? = some (.cells #[v, .string fam] 27 (0, 0))) (ho : w1.ownsRow (wb + 1) 5 1 v' L.length (byteV L)) : WSt wb (w1.setCell ⟨wb, 0, none⟩ v') L fam v' :=
  ⟨by rw [heap_setCell_same w1 wb 0 _ 27 _ hb]; rfl, ownsRow_setCell_below ho (by simp) _⟩

theorem WSt.alloc {wb : Nat} {w : World} {L : List UInt8} {fam : ByteArray} {v : Value} (h : WSt wb w L fam v) (o : Obj) : WSt wb (w.alloc o) L fam v :=
  ⟨(Below.heap_alloc _ _ _ h.lt).trans h.box, h.own.alloc o⟩

theorem cell_box {w : World} {b : Nat} {cs : Array Value} {t : TypeId} {i : Nat} {v : Value} (h : w.heap[b]? = some (.cells cs t (0, 0))) (hv : cs[i]? = some v) : w.cell? ⟨b, i, none⟩ = some v := by
  simp [World.cell?, h, hv]
theorem fr_box {w : World} {b : Nat} {cs : Array Value} {t : TypeId} (o : Nat) (h : w.heap[b]? = some (.cells cs t (0, 0))) : w.frozen? ⟨b, o, none⟩ = false := by
  simp [World.frozen?, h]

/-- What an append and its store leave: the world, the value, the bytes. -/
def Left1 (wb : Nat) (w : World) (L : List UInt8) (fam : ByteArray) (v : Value) (news : List UInt8) (k : Value → World → Prop) : Prop :=
  ∀ g n c w1 L', w1.cell? ⟨wb, 0, none⟩ = some v → w1.frozen? ⟨wb, 0, none⟩ = false → Hid (L' = L ++ news) → L'.length ≤ L.length + news.length →
    WSt wb (w1.setCell ⟨wb, 0, none⟩ (.slice (some ⟨g, 0, none⟩) n c)) L' fam (.slice (some ⟨g, 0, none⟩) n c) → Below wb w (w1.setCell ⟨wb, 0, none⟩ (.slice (some ⟨g, 0, none⟩) n c)) → k (.slice (some ⟨g, 0, none⟩) n c) w1

/-- 'w.b = append(w.b, s...)', s a string: AT THE APPEND. -/
theorem law_str (w : World) {ops : Array Oper} {rest : List Oper} {o : Oper} {a : Act} {Q : Exit → Act → World → Prop} (hgd : o.guard = none) (sl x : Operand)
    (ho : o.op = .call { callee := .builtin .append, args := #[sl, x], argTypes := #[25, 9] }) (wb : Nat) (L : List UInt8) (fam : ByteArray) (v : Value) (hS : WSt wb w L fam v) (s : ByteArray) (hs : a.eval sl = v) (hx : a.eval x = .string s)
    (hb : L.length + s.size ≤ 100000000) (hpos : 0 < L.length + s.size)
    (h : Left1 wb w L fam v s.data.toList fun v' w1 => wpList Try.prog ops Q rest (a.put o.dst v') w1) :
    wpList Try.prog ops Q (o :: rest) a w := by
  obtain ⟨i5, hi5, hz50, hz51, hz52⟩ := info_parts Try.info5
  refine Lib.wpList_append_own_string w hgd sl x 25 9 ho (wb + 1) 5 i5 Try.underlying25 Try.underlying9 hi5 hz50 hz51 hz52 v L.length (byteV L) hs hS.own s hx (by unfold maxLen; omega) (by omega) hS.lt ?_
  intro v' w1 hown hg _
  have hbx := hS.mid hg
  rcases hown.2 with ⟨_, h0⟩ | ⟨g, c, cur, rfl, _⟩
  · omega
  have hS' : WSt wb (w1.setCell ⟨wb, 0, none⟩ (.slice (some ⟨g, 0, none⟩) (L.length + s.size) c)) (L ++ s.data.toList) fam (.slice (some ⟨g, 0, none⟩) (L.length + s.size) c) := by
    refine WSt.stored hbx ?_
    rw [strCells_byteV, byteV_append] at hown
    simpa using hown
  refine h g _ c w1 _ (cell_box hbx rfl) (fr_box 0 hbx) (show _ = _ from rfl) (by simp) hS' ?_
  exact ((Below.refl wb w).grown hg (Nat.le_of_lt hS.lt) (fun k hk => by have := (hS.own.lt k hk).1; omega)).setCell (Nat.le_refl _) _

/-- 'w.b = append(w.b, b)', b a byte: AT THE APPEND, the byte laid in a new block. -/
theorem law_byte (w : World) {ops : Array Oper} {rest : List Oper} {o : Oper} {a : Act} {Q : Exit → Act → World → Prop} (hgd : o.guard = none) (sl x : Operand)
    (ho : o.op = .call { callee := .builtin .append, args := #[sl, x], argTypes := #[25, 25] }) (wb : Nat) (L : List UInt8) (fam : ByteArray) (v : Value) (b : UInt8) (z : Int) (hz : z = (b.toNat : Int)) (hS : WSt wb w L fam v) (hs : a.eval sl = v) (sz : Nat) (hsz : sz = w.heap.size) (hx : a.eval x = .slice (some ⟨sz, 0, none⟩) 1 1)
    (hb : L.length + 1 ≤ 100000000)
    (h : Left1 wb w L fam v [b] fun v' w1 => wpList Try.prog ops Q rest (a.put o.dst v') w1) :
    wpList Try.prog ops Q (o :: rest) a (w.alloc (.cells #[.int .u8 z] 5)) := by
  subst hz hsz
  obtain ⟨i5, hi5, hz50, hz51, hz52⟩ := info_parts Try.info5
  have hSa := hS.alloc (.cells #[.int .u8 (b.toNat : Int)] 5)
  refine wpList_append_own (w.alloc (.cells #[.int .u8 (b.toNat : Int)] 5)) hgd sl x 25 ho (wb + 1) 5 i5 (.int .u8 0) 1 1 Try.underlying25 hi5 hz50 hz51 hz52 rfl (by decide) v L.length (byteV L) hs hSa.own ⟨w.heap.size, 0, none⟩ 1 1 [.int .u8 (b.toNat : Int)] hx rfl (cell_one_new _ _ _) (by intro u hu; simp at hu; subst hu; rfl) (by unfold maxLen; omega) (by omega) hSa.lt ?_
  intro v' w1 hown hg _
  have hbx := hSa.mid hg
  rcases hown.2 with ⟨_, h0⟩ | ⟨g, c, cur, rfl, _⟩
  · omega
  have hS' : WSt wb (w1.setCell ⟨wb, 0, none⟩ (.slice (some ⟨g, 0, none⟩) (L.length + 1) c)) (L ++ [b]) fam (.slice (some ⟨g, 0, none⟩) (L.length + 1) c) := by
    refine WSt.stored hbx ?_
    have e : byteV L ++ [.int .u8 (b.toNat : Int)] = byteV (L ++ [b]) := by simp [byteV]
    rw [e] at hown
    simpa using hown
  refine h g _ c w1 _ (cell_box hbx rfl) (fr_box 0 hbx) (show _ = _ from rfl) (by simp) hS' ?_
  exact ((((Below.refl wb w).alloc (Nat.le_of_lt hS.lt) _).grown hg (by have := hS.lt; simp; omega) (fun k hk => by have := (hSa.own.lt k hk).1; omega))).setCell (Nat.le_refl _) _

/-- '# HELP ' -/
def helpL : List UInt8 := [35, 32, 72, 69, 76, 80, 32]
/-- newline '# TYPE ' -/
def typeL : List UInt8 := [10, 35, 32, 84, 89, 80, 69, 32]
def helpB : ByteArray := ⟨#[35, 32, 72, 69, 76, 80, 32]⟩
def typeB : ByteArray := ⟨#[10, 35, 32, 84, 89, 80, 69, 32]⟩
/-- The two lines of a family. -/
def hdrL (name typ help : ByteArray) : List UInt8 := helpL ++ (name.data.toList ++ (32 :: (help.data.toList ++ (typeL ++ (name.data.toList ++ (32 :: (typ.data.toList ++ [10])))))))

set_option maxHeartbeats 1600000 in
theorem family_any (wb : Nat) (name typ help : ByteArray) (L : List UInt8) (fam : ByteArray) (v : Value) (w : World) (hS : WSt wb w L fam v) (hL : L.length ≤ 8388608) (hn : name.size ≤ 262144) (ht : typ.size ≤ 262144) (hh : help.size ≤ 262144) :
    Calls Try.prog 6 #[.pointer (some ⟨wb, 0, none⟩), .string name, .string typ, .string help] w fun e w' => e = .returned (.tuple #[]) ∧
      (∃ v', WSt wb w' (L ++ hdrL name typ help) name v') ∧ Below wb w w' := by
  have wbl := hS.lt
  have c1 := hS.cell1
  have f1 := hS.fr 1
  have hS0 := hS.named name
  have hB0 : Below wb w (w.setCell ⟨wb, 1, none⟩ (.string name)) := (Below.refl wb w).setCell (p := ⟨wb, 1, none⟩) (Nat.le_refl wb) _
  have c0 := hS0.cell0
  have HS : Hid _ := hS0
  clear hS hS0
  have z1 : name.data.toList.length = name.size := by simp
  have z2 : typ.data.toList.length = typ.size := by simp
  have z3 : help.data.toList.length = help.size := by simp
  have Z1 : Hid _ := z1
  have Z2 : Hid _ := z2
  have Z3 : Hid _ := z3
  clear z1 z2 z3
  go_enter Try.func6, Try.ntmps6
  go_wp2_with (at_builtin; refine law_str _ rfl _ _ rfl wb L name v HS.out helpB rfl rfl ?_ ?_ ?_)
  · show L.length + 7 ≤ _; omega
  · show 0 < L.length + 7; omega
  intro g1 n1 k1 w1 L1 d1 e1 HL1 hl1 hS1 hB1
  change L1.length ≤ L.length + 7 at hl1
  have p1 : 0 < L1.length := by rw [HL1.out]; simp [helpB]
  clear c0 c1 f1
  have c1 := hS1.cell0
  go_wp2_with (at_builtin; refine law_str _ rfl _ _ rfl wb L1 name _ hS1 name rfl rfl (by omega) (by omega) ?_)
  intro g2 n2 k2 w2 L2 d2 e2 HL2 hl2 hS2 hB2
  rw [Z1.out] at hl2
  have p2 : 0 < L2.length := by rw [HL2.out]; simp; omega
  clear c1 d1 e1
  have c2 := hS2.cell0
  go_wp2_with (at_builtin; refine law_byte _ rfl _ _ rfl wb L2 name _ 32 _ rfl hS2 rfl _ (by simp) rfl (by omega) ?_)
  intro g3 n3 k3 w3 L3 d3 e3 HL3 hl3 hS3 hB3
  change L3.length ≤ L2.length + 1 at hl3
  have p3 : 0 < L3.length := by rw [HL3.out]; simp; try omega
  clear c2 d2 e2
  have c3 := hS3.cell0
  go_wp2_with (at_builtin; refine law_str _ rfl _ _ rfl wb L3 name _ hS3 help rfl rfl (by omega) (by omega) ?_)
  intro g4 n4 k4 w4 L4 d4 e4 HL4 hl4 hS4 hB4
  rw [Z3.out] at hl4
  have p4 : 0 < L4.length := by rw [HL4.out]; simp; try omega
  clear c3 d3 e3
  have c4 := hS4.cell0
  go_wp2_with (at_builtin; refine law_str _ rfl _ _ rfl wb L4 name _ hS4 typeB rfl rfl (by show L4.length + 8 ≤ _; omega) (by omega) ?_)
  intro g5 n5 k5 w5 L5 d5 e5 HL5 hl5 hS5 hB5
  change L5.length ≤ L4.length + 8 at hl5
  have p5 : 0 < L5.length := by rw [HL5.out]; simp; try omega
  clear c4 d4 e4
  have c5 := hS5.cell0
  go_wp2_with (at_builtin; refine law_str _ rfl _ _ rfl wb L5 name _ hS5 name rfl rfl (by omega) (by omega) ?_)
  intro g6 n6 k6 w6 L6 d6 e6 HL6 hl6 hS6 hB6
  rw [Z1.out] at hl6
  have p6 : 0 < L6.length := by rw [HL6.out]; simp; try omega
  clear c5 d5 e5
  have c6 := hS6.cell0
  go_wp2_with (at_builtin; refine law_byte _ rfl _ _ rfl wb L6 name _ 32 _ rfl hS6 rfl _ (by simp) rfl (by omega) ?_)
  intro g7 n7 k7 w7 L7 d7 e7 HL7 hl7 hS7 hB7
  change L7.length ≤ L6.length + 1 at hl7
  have p7 : 0 < L7.length := by rw [HL7.out]; simp; try omega
  clear c6 d6 e6
  have c7 := hS7.cell0
  go_wp2_with (at_builtin; refine law_str _ rfl _ _ rfl wb L7 name _ hS7 typ rfl rfl (by omega) (by omega) ?_)
  intro g8 n8 k8 w8 L8 d8 e8 HL8 hl8 hS8 hB8
  rw [Z2.out] at hl8
  have p8 : 0 < L8.length := by rw [HL8.out]; simp; try omega
  clear c7 d7 e7
  have c8 := hS8.cell0
  go_wp2_with (at_builtin; refine law_byte _ rfl _ _ rfl wb L8 name _ 10 _ rfl hS8 rfl _ (by simp) rfl (by omega) ?_)
  intro g9 n9 k9 w9 L9 d9 e9 HL9 hl9 hS9 hB9
  change L9.length ≤ L8.length + 1 at hl9
  have p9 : 0 < L9.length := by rw [HL9.out]; simp; try omega
  clear c8 d8 e8
  have c9 := hS9.cell0
  go_wp2
  go_end0
  have eL : L9 = L ++ hdrL name typ help := by
    rw [HL9.out, HL8.out, HL7.out, HL6.out, HL5.out, HL4.out, HL3.out, HL2.out, HL1.out]
    simp [hdrL, helpL, typeL, helpB, typeB]
  rw [eL] at hS9
  exact ⟨rfl, ⟨_, hS9⟩, hB0.trans (hB1.trans (hB2.trans (hB3.trans (hB4.trans (hB5.trans (hB6.trans (hB7.trans (hB8.trans hB9))))))))⟩
end Go.Proofs.Qxb6600728a

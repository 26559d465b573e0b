/- (*fieldNames).earlier -/
import Derived.Test.Qxb6001758aEState
import Derived.Test.Qxb6001758aZZInv
import Derived.BigRegion
namespace Go.Proofs.Qxb6001758a
open Go.RowKit
open Go.Maps
set_option linter.unusedVariables false

theorem cellBox {w : World} {b : Nat} {cs : Array Value} {t : TypeId} {i : Nat} {v : Value} (h : w.heap[b]? = some (.cells cs t (0, 0))) (hv : cs[i]? = some v) : w.cell? ⟨b, i, none⟩ = some v := by
  simp [World.cell?, h, hv]

/-- What a call of earlier leaves. -/
def EPost (d : Bool) (nb n : Nat) (N : Nat → ByteArray) (s : ByteArray) (r : Option Nat) (w : World) (e : Ending) (w' : World) : Prop :=
  ∃ x, e = .returned (.int .i64 x) ∧ Found (fun j => sameB d (N j) s) n x ∧ KeepsBut nb r w w' ∧ ∃ r', (r' = r ∨ ∃ mb, r = none ∧ r' = some mb ∧ w.heap.size ≤ mb) ∧
    (0 ≤ x → EState d w' nb n N r') ∧ (x < 0 → ∀ N', (∀ i, i < n → N' i = N i) → N' n = s → EState d w' nb (n + 1) N' r')

set_option maxHeartbeats 800000 in
theorem earlier_short (d : Bool) (nb : Nat) (a : Option Addr) (n c : Nat) (N V : Nat → ByteArray) (s : ByteArray) (r : Option Nat) (w : World) (h : Flds w a n N V) (hn : n < 32) (hs : s.size ≤ maxLen) (hE : EState d w nb n N r) :
    Calls Try.prog 23 #[.pointer (some ⟨nb, 0, none⟩), .slice a n c, .string s] w fun e w' => EPost d nb n N s r w e w' := by
  have g0 : w.cell? ⟨nb, 0, none⟩ = some (.int .u8 (rl d)) := cellBox hE.1 rfl
  have hr : r = none := by
    cases r with
    | none => rfl
    | some mb => have := (hE.2 mb rfl).1; omega
  subst hr
  have HE : Hid (EState d w nb n N none) := hE
  clear hE
  go_enter Try.func23, Try.ntmps23
  go_wp2_with fail
  refine (indexOf_any d _ _ _ N V s _ h (by omega) hs).mono ?_
  rintro e w1 ⟨⟨x, rfl, hx⟩, hb⟩
  go_wp2
  go_ret
  refine ⟨x, rfl, hx, .ofBelow hb, none, .inl rfl, fun _ => HE.out.below hb, fun _ N' _ _ => ⟨(HE.out.below hb).1, fun mb e => by cases e⟩⟩

theorem zero3 (w : World) : (zeroValue 3).run Try.prog w = .ok (.int .i64 0) w := by kernel_rfl

theorem wf_small (n : Nat) (h : n ≤ 1048576) : (Lit.int .i64 (n : Int)).wf = true := WalkArith.wf_i64 (by omega)

set_option maxHeartbeats 800000 in
theorem earlier_map (d : Bool) (nb mb : Nat) (a : Option Addr) (n c : Nat) (N V : Nat → ByteArray) (s : ByteArray) (w : World) (hn : n ≤ 1048576) (hs : s.size ≤ 1048576) (hE : EState d w nb n N (some mb))
    (hpw : ∀ i j, i < j → j < n → sameB d (N i) (N j) = false) :
    Calls Try.prog 23 #[.pointer (some ⟨nb, 0, none⟩), .slice a n c, .string s] w fun e w' => EPost d nb n N s (some mb) w e w' := by
  have q46 : ∀ (w : World) (r : Option Nat), (binOp .eql 46 (.map r) (.map none)).run Try.prog w = .ok (.bool r.isNone) w := fun w r => run_eql_map_nil w _ _ _ r Try.underlying46
  have g0 : w.cell? ⟨nb, 0, none⟩ = some (.int .u8 (rl d)) := cellBox hE.1 rfl
  have g1 : w.cell? ⟨nb, 1, none⟩ = some (.map (some mb)) := cellBox hE.1 rfl
  have hn32 : 32 ≤ n := (hE.2 mb rfl).1
  have HE : Hid (EState d w nb n N (some mb)) := hE
  have HP : Hid (∀ i j, i < j → j < n → sameB d (N i) (N j) = false) := hpw
  clear hE hpw
  go_enter Try.func23, Try.ntmps23
  go_wp2_with fail
  refine (key_any d s _ hs).mono ?_
  rintro e w1 ⟨rfl, hb⟩
  have HE1 := HE.out.below hb
  have g1' : w1.cell? ⟨nb, 1, none⟩ = some (.map (some mb)) := cellBox HE1.1 rfl
  obtain ⟨_, hnm, D, hD, hM⟩ := HE1.2 mb rfl
  have HM : Hid (MapIs d D n N) := hM
  have HE1 : Hid (EState d w1 nb n N (some mb)) := HE1
  clear hM
  have hkey : keyOf Try.prog 9 (.string (keyB d s)) = some (.string (keyL d s)) := by
    rw [WideMaps.keyOf_string_mk Try.underlying9 (by rw [keyB_size]; unfold maxLen; omega), keyB_list]
  have hIs : Hid (IsMap D) := hD.isMap
  have hkz : n < maxLen := by unfold maxLen; omega
  go_wp2_with (at_lookup; refine wpList_lookup_own_ok_int _ rfl _ _ 46 rfl 9 3 .i64 klaw Try.underlying46 Try.underlying3 (zero3 _) mb n D rfl hD _ _ rfl hkey ?_)
  intro cc hat hwc
  cases hh : Maps.has D (.string (keyL d s))
  · have Hh : Hid (Maps.has D (.string (keyL d s)) = false) := hh
    clear hat hwc
    go_wp2_with (at_mapUpdate; refine wpList_mapUpdate_own _ rfl _ _ _ 46 rfl 9 3 klaw Try.underlying46 _ mb n D rfl hD hkz _ _ _ rfl rfl hkey _ [] (plainElem_int Try.underlying3 (wf_small n hn)) ?_)
    intro w2 hD2 hg2
    clear hD hh
    go_wp2
    go_ret
    have hmiss := HM.out.missing Hh.out
    have hl : nb < w1.heap.size := (Array.getElem?_eq_some_iff.1 HE1.out.1).1
    refine ⟨-1, rfl, .inl ⟨rfl, hmiss⟩, (KeepsBut.ofBelow hb).trans (r' := some mb) ⟨hg2.os, hg2.tape, hg2.output, hg2.size, fun k hk _ h2 => hg2.block k hk h2⟩ (fun k e _ => e), some mb, .inl rfl, fun h => by omega, fun _ N' h1 h2 => ⟨(hg2.block nb hl (by simp; omega)).trans HE1.out.1, fun mb' e => ?_⟩⟩
    cases e
    exact ⟨by omega, hnm, _, hD2, HM.out.put hIs.out h1 h2 hmiss⟩
  · have Hh : Hid (Maps.has D (.string (keyL d s)) = true) := hh
    have Hat : Hid (D.atKey (.string (keyL d s)) (.lit (.int .i64 0)) = .lit (.int .i64 cc)) := hat
    clear hat hwc
    go_wp2
    go_ret
    have hf := HM.out.found HP.out Hh.out Hat.out
    refine ⟨cc, rfl, hf, .ofBelow hb, some mb, .inl rfl, fun _ => HE1.out, fun h => ?_⟩
    rcases hf with ⟨rfl, hno⟩ | ⟨k, rfl, _⟩
    · obtain ⟨i, hi, hk⟩ := HM.out.2 _ Hh.out
      have := hno i hi
      simp only at this
      rw [(keyL_same d _ _).2 hk] at this
      cases this
    · omega

theorem below_grown {w w' : World} (hb : Below w.heap.size w w') : w.grownBy w' none := ⟨hb.os, hb.tape, hb.output, hb.size, fun k hk _ => hb.block k hk⟩

/-- The state while the map is built: k names are in it. -/
structure BInv (d : Bool) (w wr : World) (nb k : Nat) (N : Nat → ByteArray) : Prop where
  keep : KeepsBut nb none w wr
  box : wr.heap[nb]? = some (.cells #[.int .u8 (rl d), .map (some w.heap.size)] 48 (0, 0))
  map : ∃ D : DataW Unit, wr.ownsMap Try.prog 9 (plainElem Try.prog 3) w.heap.size k D ∧ MapIs d D k N

theorem str_not_box {w : World} {nb b o : Nat} {x : Int} {r : Option Nat} {s : ByteArray} (h : w.heap[nb]? = some (.cells #[.int .u8 x, .map r] 48 (0, 0))) (hc : w.cell? ⟨b, o, none⟩ = some (.string s)) : b ≠ nb := by
  intro e
  subst e
  match o with
  | 0 => simp [World.cell?, h] at hc
  | 1 => simp [World.cell?, h] at hc
  | o + 2 => simp [World.cell?, h] at hc

theorem str_not_map {w : World} {mb b o : Nat} {es : Array MapEntry} {c : Nat} {s : ByteArray} (h : w.heap[mb]? = some (.map es c)) (hc : w.cell? ⟨b, o, none⟩ = some (.string s)) : b ≠ mb := by
  intro e
  subst e
  simp [World.cell?, h] at hc

theorem str_keeps {d : Bool} {w w' : World} {nb n : Nat} {N : Nat → ByteArray} {r : Option Nat} {b o : Nat} {s : ByteArray} (hE : EState d w nb n N r) (hK : KeepsBut nb r w w') (hc : w.cell? ⟨b, o, none⟩ = some (.string s)) : w'.cell? ⟨b, o, none⟩ = some (.string s) := by
  refine hK.cell hc (str_not_box hE.1 hc) fun e => ?_
  obtain ⟨_, _, D, ⟨es, c, hm, _⟩, _⟩ := hE.2 b e.symm
  exact str_not_map hm hc rfl

theorem Flds.keeps {d : Bool} {w w' : World} {nb n0 : Nat} {N0 : Nat → ByteArray} {r : Option Nat} {a : Option Addr} {n : Nat} {N V : Nat → ByteArray} (h : Flds w a n N V) (hE : EState d w nb n0 N0 r) (hK : KeepsBut nb r w w') : Flds w' a n N V := by
  intro i hi
  obtain ⟨b, off, e, hc, hc', hs⟩ := h i hi
  exact ⟨b, off, e, str_keeps hE hK hc, str_keeps hE hK hc', hs⟩

theorem BInv.start {d : Bool} {w : World} {nb : Nat} {N : Nat → ByteArray} (hb : w.heap[nb]? = some (.cells #[.int .u8 (rl d), .map none] 48 (0, 0))) :
    BInv d w ((w.setCell ⟨nb, 1, none⟩ (.map (some w.heap.size))).alloc (.map #[] 0)) nb 0 N := by
  have hnl : nb < w.heap.size := (Array.getElem?_eq_some_iff.1 hb).1
  have hsz : (w.setCell ⟨nb, 1, none⟩ (.map (some w.heap.size))).heap.size = w.heap.size := by simp [World.setCell]
  refine ⟨⟨rfl, rfl, rfl, by simp [World.setCell], fun k hk h1 _ => ?_⟩, ?_, .map [], ?_, MapIs.empty d N⟩
  · rw [Below.heap_alloc _ _ _ (by rw [hsz]; exact hk)]
    exact Below.heap_setCell _ _ _ _ h1
  · rw [Below.heap_alloc _ _ _ (by rw [hsz]; exact hnl), heap_setCell_same w nb 1 _ 48 _ hb]
    rfl
  · have := World.ownsMap_made (H := Unit) (w.setCell ⟨nb, 1, none⟩ (.map (some w.heap.size))) Try.prog 9 (plainElem Try.prog 3)
    rw [hsz] at this
    exact this

theorem BInv.step {d : Bool} {w wr w5 w6 : World} {nb k : Nat} {N : Nat → ByteArray} {o : Obj} {D : DataW Unit} (h : BInv d w wr nb k N) (hM : MapIs d D k N) (hI : IsMap D) (hpw : ∀ i, i < k → sameB d (N i) (N k) = false)
    (hb5 : Below (wr.alloc o).drew.heap.size (wr.alloc o).drew w5) (hD6 : w6.ownsMap Try.prog 9 (plainElem Try.prog 3) w.heap.size (k + 1) (D.put (.string (keyL d (N k))) (.lit (.int .i64 (k : Int))))) (hg6 : w5.grownBy w6 (some w.heap.size)) (hnl : nb < w.heap.size) :
    BInv d w w6 nb (k + 1) N := by
  have hB : Below wr.heap.size wr w5 := (((Below.refl _ wr).alloc (Nat.le_refl _) o).drew).trans (hb5.mono (by show _ ≤ (wr.alloc o).heap.size; simp))
  have hnl' : nb < w5.heap.size := by have := h.keep.size; have := hB.size; omega
  refine ⟨⟨hg6.os.trans (hB.os.trans h.keep.os), hg6.tape.trans (hB.tape.trans h.keep.tape), hg6.output.trans (hB.output.trans h.keep.output), Nat.le_trans h.keep.size (Nat.le_trans hB.size hg6.size), fun k' hk h1 h2 => ?_⟩, ?_, _, hD6, hM.put hI (fun _ _ => rfl) rfl hpw⟩
  · have : k' < wr.heap.size := Nat.lt_of_lt_of_le hk h.keep.size
    exact (hg6.block k' (Nat.lt_of_lt_of_le this hB.size) (by simp; omega)).trans ((hB.block k' this).trans (h.keep.block k' hk h1 h2))
  · exact (hg6.block nb hnl' (by simp; omega)).trans ((hB.block nb (by have := h.keep.size; omega)).trans h.box)

set_option maxHeartbeats 3200000 in
theorem earlier_build (d : Bool) (nb : Nat) (a : Option Addr) (n c : Nat) (N V : Nat → ByteArray) (s : ByteArray) (w : World) (h : Flds w a n N V) (hn : n ≤ 1048576) (hn32 : 32 ≤ n) (hs : s.size ≤ 1048576) (hN : ∀ i, i < n → (N i).size ≤ 1048576) (hE : EState d w nb n N none)
    (hpw : ∀ i j, i < j → j < n → sameB d (N i) (N j) = false) :
    Calls Try.prog 23 #[.pointer (some ⟨nb, 0, none⟩), .slice a n c, .string s] w fun e w' => EPost d nb n N s none w e w' := by
  have q46 : ∀ (w : World) (r : Option Nat), (binOp .eql 46 (.map r) (.map none)).run Try.prog w = .ok (.bool r.isNone) w := fun w r => run_eql_map_nil w _ _ _ r Try.underlying46
  have hmm : ∀ w, (Instr.makeMap 46 (some (.int .i64 64))).run Try.prog w = .ok (.map (some w.heap.size)) (w.alloc (.map #[] 0)) := fun w => by
    simp [Instr.makeMap, run_underlying Try.underlying46, asInt, asIntOf]
  have g0 : w.cell? ⟨nb, 0, none⟩ = some (.int .u8 (rl d)) := cellBox hE.1 rfl
  have g1 : w.cell? ⟨nb, 1, none⟩ = some (.map none) := cellBox hE.1 rfl
  have f1 : w.frozen? ⟨nb, 1, none⟩ = false := by simp [World.frozen?, hE.1]
  have hnl : nb < w.heap.size := (Array.getElem?_eq_some_iff.1 hE.1).1
  have HE : Hid (EState d w nb n N none) := hE
  have HP : Hid (∀ i j, i < j → j < n → sameB d (N i) (N j) = false) := hpw
  clear hE hpw
  have hd32 : decide ((n : Int) < 32) = false := by simp; omega
  go_enter Try.func23, Try.ntmps23
  go_wp2_with fail
  clear hmm g1 f1 g0
  go_loopw [33] (fun i wr => ∃ k : Nat, k ≤ n ∧ i = .int .i64 k ∧ Hid (BInv d w wr nb k N)) (fun i _ => n - (intOf i).toNat)
  case atStart => exact ⟨0, Nat.zero_le _, rfl, BInv.start HE.out.1⟩
  case round =>
    obtain ⟨k, hk, rfl, hI⟩ := hrel
    by_cases hlt : k < n
    · obtain ⟨b, off, rfl, hc, hc', hsN, hsV⟩ := (h.keeps HE.out hI.out.keep) k hlt
      have nbl : nb < wr.heap.size := by have := hI.out.keep.size; omega
      have nbn : ¬ nb = wr.heap.size := by omega
      have mbl : w.heap.size < wr.heap.size := by obtain ⟨D, hD, _⟩ := hI.out.map; exact hD.lt
      have g0 : (wr.alloc (.cells #[.string (N k), .string (V k)] 33)).cell? ⟨nb, 0, none⟩ = some (.int .u8 (rl d)) := (World.cell?_of_block (w := wr) (Below.heap_alloc _ _ _ nbl)).trans (cellBox hI.out.box rfl)
      have g1 : (wr.alloc (.cells #[.string (N k), .string (V k)] 33)).cell? ⟨nb, 1, none⟩ = some (.map (some w.heap.size)) := (World.cell?_of_block (w := wr) (Below.heap_alloc _ _ _ nbl)).trans (cellBox hI.out.box rfl)
      obtain ⟨D, hD, hM⟩ := hI.out.map
      have HD : Hid (wr.ownsMap Try.prog 9 (plainElem Try.prog 3) w.heap.size k D) := hD
      have HM : Hid (MapIs d D k N) := hM
      clear hD hM
      have hszk : (N k).size ≤ 1048576 := hN k hlt
      have hkm : k < maxLen := by unfold maxLen; omega
      have hkey : keyOf Try.prog 9 (.string (keyB d (N k))) = some (.string (keyL d (N k))) := by
        rw [WideMaps.keyOf_string_mk Try.underlying9 (by rw [keyB_size]; unfold maxLen; omega), keyB_list]
      have HK : Hid _ := hkey
      clear hkey
      go_wp2
      go_region_with (go_at_call 28; refine (key_any d (N k) _ hszk).mono ?_; rintro e w5 ⟨rfl, hb5⟩; have g5 : w5.cell? ⟨nb, 1, none⟩ = some (.map (some w.heap.size)) := (hb5.cell (p := ⟨nb, 1, none⟩) (by simp; omega)).trans g1; obtain ⟨w6, hrun6, hD6, hg6⟩ := (((HD.out.alloc _).drew).kept (below_grown hb5) (by simp)).update klaw Try.underlying46 hkm HK.out (plainElem_int Try.underlying3 (wf_small k (by omega))))
      all_goals
        have hIs := HD.out.isMap
        clear hrun6 g5 g0 g1 hc hc'
        go_wp2
        go_roundw
        case rel => exact ⟨k + 1, by omega, by go_num, hI.out.step HM.out hIs (fun i hi => HP.out i k hi hlt) hb5 hD6 hg6 hnl⟩
        case measure => simp [intOf]; omega
    · obtain rfl : n = k := by omega
      have g0 : wr.cell? ⟨nb, 0, none⟩ = some (.int .u8 (rl d)) := cellBox hI.out.box rfl
      obtain ⟨D, hD, hM⟩ := hI.out.map
      have mbl : w.heap.size < wr.heap.size := hD.lt
      have nbl : nb < wr.heap.size := by omega
      go_wp2_with fail
      refine (key_any d s _ hs).mono ?_
      rintro e w1 ⟨rfl, hb⟩
      have hD1 := hD.kept (below_grown hb) (by simp)
      have hbx1 := (hb.block nb nbl).trans hI.out.box
      have g1' : w1.cell? ⟨nb, 1, none⟩ = some (.map (some w.heap.size)) := cellBox hbx1 rfl
      have hK1 : KeepsBut nb none w w1 := hI.out.keep.trans (r' := none) (KeepsBut.ofBelow hb) (fun k e => by cases e)
      have HBX : Hid _ := hbx1
      have HM : Hid (MapIs d D n N) := hM
      have hIs : Hid (IsMap D) := hD1.isMap
      clear hM hD hbx1
      have hkey : keyOf Try.prog 9 (.string (keyB d s)) = some (.string (keyL d s)) := by
        rw [WideMaps.keyOf_string_mk Try.underlying9 (by rw [keyB_size]; unfold maxLen; omega), keyB_list]
      have hkz : n < maxLen := by unfold maxLen; omega
      have nbl1 : nb < w1.heap.size := by have := hb.size; omega
      go_wp2_with (at_lookup; refine wpList_lookup_own_ok_int _ rfl _ _ 46 rfl 9 3 .i64 klaw Try.underlying46 Try.underlying3 (zero3 _) w.heap.size n D rfl hD1 _ _ rfl hkey ?_)
      intro cc hat hwc
      cases hh : Maps.has D (.string (keyL d s))
      · have Hh : Hid (Maps.has D (.string (keyL d s)) = false) := hh
        clear hat hwc
        go_wp2_with (at_mapUpdate; refine wpList_mapUpdate_own _ rfl _ _ _ 46 rfl 9 3 klaw Try.underlying46 _ w.heap.size n D rfl hD1 hkz _ _ _ rfl rfl hkey _ [] (plainElem_int Try.underlying3 (wf_small n hn)) ?_)
        intro w2 hD2 hg2
        clear hD1 hh
        go_wp2
        go_ret
        have hmiss := HM.out.missing Hh.out
        refine ⟨-1, rfl, .inl ⟨rfl, hmiss⟩, hK1.trans (r' := some w.heap.size) ⟨hg2.os, hg2.tape, hg2.output, hg2.size, fun k hk _ h2 => hg2.block k hk h2⟩ (fun k e h => by cases e; omega), some w.heap.size, .inr ⟨_, rfl, rfl, Nat.le_refl _⟩, fun h => by omega, fun _ N' h1 h2 => ⟨(hg2.block nb nbl1 (by simp; omega)).trans HBX.out, fun mb' e => ?_⟩⟩
        cases e
        exact ⟨by omega, hnl, _, hD2, HM.out.put hIs.out h1 h2 hmiss⟩
      · have Hh : Hid (Maps.has D (.string (keyL d s)) = true) := hh
        have Hat : Hid (D.atKey (.string (keyL d s)) (.lit (.int .i64 0)) = .lit (.int .i64 cc)) := hat
        have HD1 : Hid _ := hD1
        clear hat hwc hD1
        go_wp2
        go_ret
        have hf := HM.out.found HP.out Hh.out Hat.out
        refine ⟨cc, rfl, hf, hK1, some w.heap.size, .inr ⟨_, rfl, rfl, Nat.le_refl _⟩, fun _ => ⟨HBX.out, fun mb' e => ?_⟩, fun h => ?_⟩
        · cases e
          exact ⟨hn32, hnl, D, HD1.out, HM.out⟩
        rcases hf with ⟨rfl, hno⟩ | ⟨k, rfl, _⟩
        · obtain ⟨i, hi, hk⟩ := HM.out.2 _ Hh.out
          have := hno i hi
          simp only at this
          rw [(keyL_same d _ _).2 hk] at this
          cases this
        · omega

/-- earlier, whatever its state. -/
theorem earlier_any (d : Bool) (nb : Nat) (a : Option Addr) (n c : Nat) (N V : Nat → ByteArray) (s : ByteArray) (r : Option Nat) (w : World) (h : Flds w a n N V) (hn : n ≤ 1048576) (hs : s.size ≤ 1048576) (hN : ∀ i, i < n → (N i).size ≤ 1048576) (hE : EState d w nb n N r)
    (hpw : ∀ i j, i < j → j < n → sameB d (N i) (N j) = false) :
    Calls Try.prog 23 #[.pointer (some ⟨nb, 0, none⟩), .slice a n c, .string s] w fun e w' => EPost d nb n N s r w e w' := by
  by_cases hn32 : n < 32
  · exact earlier_short d nb a n c N V s r w h hn32 (by unfold maxLen; omega) hE
  · cases r with
    | none => exact earlier_build d nb a n c N V s w h hn (by omega) hs hN hE hpw
    | some mb => exact earlier_map d nb mb a n c N V s w hn hs hE hpw
end Go.Proofs.Qxb6001758a

/- zzFields, ZZStanza, last, Value; the bound on lengths. -/
import Derived.Test.Qxb6001758aUniq
namespace Go.Proofs.Qxb6001758a
open Go.RowKit
set_option linter.unusedVariables false

/-- Cell i of a row of fields of which k are laid. -/
def fvCell (N V : Nat → ByteArray) (k i : Nat) : Value := .string (if i < k * 2 then (if i % 2 = 0 then N (i / 2) else V (i / 2)) else ByteArray.empty)

theorem fv_step {wr : World} {B m k : Nat} {N V : Nat → ByteArray} (h : wr.rowIs B 33 (m * 2) (fvCell N V k)) :
    (((wr.setCell ⟨B, k * 2, none⟩ (.string (N k))).setCell ⟨B, k * 2 + 1, none⟩ (.string (V k))).drew).rowIs B 33 (m * 2) (fvCell N V (k + 1)) := by
  refine World.rowIs.drew (World.rowIs.congr ((h.set (k * 2) _).set (k * 2 + 1) _) fun i hi => ?_)
  by_cases e1 : i = k * 2 + 1
  · rw [if_pos e1]; unfold fvCell; rw [if_pos (by omega), if_neg (by omega), e1, show (k * 2 + 1) / 2 = k by omega]
  · rw [if_neg e1]
    by_cases e0 : i = k * 2
    · rw [if_pos e0]; unfold fvCell; rw [if_pos (by omega), if_pos (by omega), e0, show k * 2 / 2 = k by omega]
    · rw [if_neg e0]; unfold fvCell
      by_cases e2 : i < k * 2
      · rw [if_pos e2, if_pos (show i < (k + 1) * 2 by omega)]
      · rw [if_neg e2, if_neg (show ¬ i < (k + 1) * 2 by omega)]

theorem fv_start (w : World) (m : Nat) (N V : Nat → ByteArray) : (w.alloc (.cells (madeCells #[.string ByteArray.empty, .string ByteArray.empty] (m * 2)) 33)).rowIs w.heap.size 33 (m * 2) (fvCell N V 0) := by
  refine World.rowIs.congr (rowIs_made_any _ _ _ _ (by simp)) fun i hi => ?_
  have : i % 2 = 0 ∨ i % 2 = 1 := by omega
  rcases this with e | e <;> simp [fvCell, e]

theorem fv_flds {w : World} {B m : Nat} {N V : Nat → ByteArray} (h : w.rowIs B 33 (m * 2) (fvCell N V m)) (hs : ∀ i, i < m → (N i).size ≤ maxLen ∧ (V i).size ≤ maxLen) : Flds w (some ⟨B, 0, none⟩) m N V := by
  intro i hi
  refine ⟨B, 0, rfl, ?_, ?_, hs i hi⟩
  · rw [Nat.zero_add, h.cell (i := i * 2) (by omega)]; unfold fvCell; rw [if_pos (by omega), if_pos (by omega), show i * 2 / 2 = i by omega]
  · rw [Nat.zero_add, h.cell (i := i * 2 + 1) (by omega)]; unfold fvCell; rw [if_pos (by omega), if_neg (by omega), show (i * 2 + 1) / 2 = i by omega]

set_option maxHeartbeats 1600000 in
theorem zzFields_any (a : Option Addr) (n c : Nat) (N : Nat → ByteArray) (a1 : Option Addr) (n1 c1 : Nat) (V : Nat → ByteArray) (m : Nat) (w : World) (h : Strs w a n N) (hV : Strs w a1 n1 V) (hn : n ≤ 4096) (hn1 : n1 ≤ 4096) (hm : m = min n n1) :
    Calls Try.prog 11 #[.slice a n c, .slice a1 n1 c1] w fun e w' => (∃ g, e = .returned (.slice (some ⟨g, 0, none⟩) m m) ∧ Flds w' (some ⟨g, 0, none⟩) m N V) ∧ Below w.heap.size w w' := by
  have hmn : m ≤ n := by omega
  have hmn1 : m ≤ n1 := by omega
  have hs : ∀ i, i < m → (N i).size ≤ maxLen ∧ (V i).size ≤ maxLen := fun i hi => ⟨(h i (by omega)).choose_spec.choose_spec.2.2, (hV i (by omega)).choose_spec.choose_spec.2.2⟩
  have HX : Hid _ := hs
  clear hs
  have hmk := run_make_any (P := Try.prog) 26 33 _ 2 32 Try.underlying26 Try.info33 .i64 .i64 m (by omega) (by omega)
  by_cases hc : n1 < n
  · have hd : decide ((n1 : Int) < (n : Int)) = true := by simp; omega
    obtain rfl : n1 = m := by omega
    clear hm
    go_enter Try.func11, Try.ntmps11
    go_wp2
    clear hmk
    go_loopw [7] (fun i wr => ∃ k : Nat, k ≤ n1 ∧ i = .int .i64 k ∧ Below w.heap.size w wr ∧ Hid (wr.rowIs w.heap.size 33 (n1 * 2) (fvCell N V k))) (fun i _ => n1 - (intOf i).toNat)
    case atStart => exact ⟨0, Nat.zero_le _, rfl, (Below.refl _ _).alloc (Nat.le_refl _) _, fv_start w n1 N V⟩
    case round =>
      obtain ⟨k, hk, rfl, hb, hI⟩ := hrel
      by_cases hlt : k < n1
      · obtain ⟨b, off, rfl, hcN, _⟩ := (h.below (Nat.le_refl _) hb) k (by omega)
        obtain ⟨b1, off1, rfl, hcV, _⟩ := (hV.below (Nat.le_refl _) hb) k (by omega)
        have hki : (k : Int) < (n : Int) := by omega
        have r0 := hI.out.cell (i := k * 2) (by omega)
        have r1 := hI.out.cell (i := k * 2 + 1) (by omega)
        have f0 := hI.out.frozen (k * 2)
        have f1 := hI.out.frozen (k * 2 + 1)
        go_wp2
        go_big_region
        go_wp2
        go_roundw
        case rel => exact ⟨k + 1, by omega, by go_num, ((hb.setCell (Nat.le_refl _) _).setCell (Nat.le_refl _) _).drew, fv_step hI.out⟩
        case measure => simp [intOf]; omega
      · obtain rfl : n1 = k := by omega
        go_wp2
        go_ret
        exact ⟨⟨_, rfl, fv_flds hI.out HX.out⟩, hb⟩
  · have hd : decide ((n1 : Int) < (n : Int)) = false := by simp; omega
    obtain rfl : n = m := by omega
    clear hm
    go_enter Try.func11, Try.ntmps11
    go_wp2
    clear hmk
    go_loopw [7] (fun i wr => ∃ k : Nat, k ≤ n ∧ i = .int .i64 k ∧ Below w.heap.size w wr ∧ Hid (wr.rowIs w.heap.size 33 (n * 2) (fvCell N V k))) (fun i _ => n - (intOf i).toNat)
    case atStart => exact ⟨0, Nat.zero_le _, rfl, (Below.refl _ _).alloc (Nat.le_refl _) _, fv_start w n N V⟩
    case round =>
      obtain ⟨k, hk, rfl, hb, hI⟩ := hrel
      by_cases hlt : k < n
      · obtain ⟨b, off, rfl, hcN, _⟩ := (h.below (Nat.le_refl _) hb) k (by omega)
        obtain ⟨b1, off1, rfl, hcV, _⟩ := (hV.below (Nat.le_refl _) hb) k (by omega)
        have hki : (k : Int) < (n1 : Int) := by omega
        have r0 := hI.out.cell (i := k * 2) (by omega)
        have r1 := hI.out.cell (i := k * 2 + 1) (by omega)
        have f0 := hI.out.frozen (k * 2)
        have f1 := hI.out.frozen (k * 2 + 1)
        go_wp2
        go_big_region
        go_wp2
        go_roundw
        case rel => exact ⟨k + 1, by omega, by go_num, ((hb.setCell (Nat.le_refl _) _).setCell (Nat.le_refl _) _).drew, fv_step hI.out⟩
        case measure => simp [intOf]; omega
      · obtain rfl : n = k := by omega
        go_wp2
        go_ret
        exact ⟨⟨_, rfl, fv_flds hI.out HX.out⟩, hb⟩

set_option maxHeartbeats 400000 in
theorem zzStanza_any (d : Bool) (a : Option Addr) (n c : Nat) (w : World) :
    Calls Try.prog 12 #[.slice a n c, .bool d] w fun e w' => e = .returned (.pointer (some ⟨w.heap.size, 0, none⟩)) ∧ w'.cell? ⟨w.heap.size, 0, none⟩ = some (.slice a n c) ∧ w'.cell? ⟨w.heap.size, 2, none⟩ = some (.int .u8 (rl d)) ∧ Below w.heap.size w w' := by
  cases d
  · go_enter Try.func12, Try.ntmps12
    go_wp2
    go_ret
    exact ⟨rfl, by simp, by simp; rfl, (Below.refl _ _).alloc (Nat.le_refl _) _⟩
  · go_enter Try.func12, Try.ntmps12
    go_wp2
    go_ret
    exact ⟨rfl, by simp, by simp; rfl, (Below.refl _ _).alloc (Nat.le_refl _) _⟩

theorem drewAll {w w' : World} (e : ∃ n, w' = w.drewN n) : Below w.heap.size w w' := drewN_below (Below.refl _ _) e
theorem drewCell {w w' : World} (h : ∃ m, w' = w.drewN m) (a : Addr) : w'.cell? a = w.cell? a := by obtain ⟨m, rfl⟩ := h; rfl
theorem drewTrans {w w' w'' : World} (h : ∃ m, w' = w.drewN m) (h' : ∃ m, w'' = w'.drewN m) : ∃ m, w'' = w.drewN m := by
  obtain ⟨m, rfl⟩ := h
  obtain ⟨k, rfl⟩ := h'
  exact drewN_add w m k

/-- x is the last index below n at which p holds, or -1 where there is none. -/
def FoundLast (p : Nat → Bool) (n : Nat) (x : Int) : Prop :=
  (x = -1 ∧ ∀ j, j < n → p j = false) ∨ ∃ k : Nat, x = k ∧ k < n ∧ p k = true ∧ ∀ j, k < j → j < n → p j = false
def LastRet (p : Nat → Bool) (n : Nat) (e : Ending) : Prop := ∃ x, e = .returned (.int .i64 x) ∧ FoundLast p n x
theorem lastRet_none {p : Nat → Bool} {n : Nat} (h : ∀ j, j < n → p j = false) : LastRet p n (.returned (.int .i64 (-1))) := ⟨-1, rfl, .inl ⟨rfl, h⟩⟩
theorem lastRet_some {p : Nat → Bool} {n k : Nat} (hk : k < n) (h : ∀ j, k < j → j < n → p j = false) (hp : p k = true) : LastRet p n (.returned (.int .i64 k)) := ⟨k, rfl, .inr ⟨k, rfl, hk, hp, h⟩⟩

set_option maxHeartbeats 800000 in
theorem last_any (d : Bool) (sb : Nat) (a : Option Addr) (n c : Nat) (N V : Nat → ByteArray) (s : ByteArray) (w : World) (h : Flds w a n N V) (hn : n ≤ 1048576) (hs : s.size ≤ maxLen)
    (h0 : w.cell? ⟨sb, 0, none⟩ = some (.slice a n c)) (h2 : w.cell? ⟨sb, 2, none⟩ = some (.int .u8 (rl d))) :
    Calls Try.prog 25 #[.pointer (some ⟨sb, 0, none⟩), .string s] w fun e w' => LastRet (fun j => sameB d (N j) s) n e ∧ ∃ m, w' = w.drewN m := by
  go_enter Try.func25, Try.ntmps25
  go_wp2
  go_loopw [5] (fun i wr => ∃ k : Nat, k ≤ n ∧ i = .int .i64 ((k : Int) - 1) ∧ Hid (∃ m, wr = w.drewN m) ∧ Hid (∀ j, k ≤ j → j < n → sameB d (N j) s = false)) (fun i _ => (intOf i + 1).toNat)
  case atStart => exact ⟨n, Nat.le_refl _, rfl, ⟨0, rfl⟩, fun j h1 h2 => by omega⟩
  case round =>
    obtain ⟨k, hk, rfl, HD, hall⟩ := hrel
    cases k with
    | zero =>
      rw [show ((0 : Nat) : Int) - 1 = -1 from by omega]
      go_wp2
      go_ret
      exact ⟨lastRet_none (fun j hj => hall.out j (Nat.zero_le _) hj), HD.out⟩
    | succ k =>
      rw [show ((k + 1 : Nat) : Int) - 1 = (k : Int) from by omega]
      obtain ⟨b, off, rfl, hc, hc', hsN, hsV⟩ := (h.below (Nat.le_refl _) (drewAll HD.out)) k (by omega)
      have g0 := (drewCell HD.out _).trans h0
      have g2 := (drewCell HD.out _).trans h2
      have hki : (k : Int) < (n : Int) := by omega
      go_wp2
      go_quiet ((go_at_call 29; exact Calls.quiet_of (same_any _ _ _ _ hsN hs)))
      go_wp2
      · have hsm : sameB d (N k) s = true := by assumption
        go_ret
        exact ⟨lastRet_some (by omega) (fun j h1 h2 => hall.out j (by omega) h2) hsm, drews HD.out nq⟩
      · have hsm : sameB d (N k) s = false := by assumption
        go_roundw
        case rel =>
          refine ⟨k, by omega, rfl, drews HD.out nq, fun j h1 h2 => ?_⟩
          by_cases e : j = k
          · subst e; exact hsm
          · exact hall.out j (by omega) h2
        case measure => simp [intOf]

/-- What Value returns: the value of the last field of that name. -/
def ValRet (p : Nat → Bool) (n : Nat) (V : Nat → ByteArray) (e : Ending) : Prop :=
  (e = .returned (.tuple #[.string ByteArray.empty, .bool false]) ∧ ∀ j, j < n → p j = false) ∨ ∃ k : Nat, e = .returned (.tuple #[.string (V k), .bool true]) ∧ k < n ∧ p k = true ∧ ∀ j, k < j → j < n → p j = false

set_option maxHeartbeats 800000 in
theorem value_any (d : Bool) (sb : Nat) (a : Option Addr) (n c : Nat) (N V : Nat → ByteArray) (s : ByteArray) (w : World) (h : Flds w a n N V) (hn : n ≤ 1048576) (hs : s.size ≤ maxLen)
    (h0 : w.cell? ⟨sb, 0, none⟩ = some (.slice a n c)) (h2 : w.cell? ⟨sb, 2, none⟩ = some (.int .u8 (rl d))) :
    Calls Try.prog 17 #[.pointer (some ⟨sb, 0, none⟩), .string s] w fun e w' => ValRet (fun j => sameB d (N j) s) n V e ∧ ∃ m, w' = w.drewN m := by
  go_enter Try.func17, Try.ntmps17
  go_wp2_with fail
  refine (last_any d sb a n c N V s _ h hn hs h0 h2).mono ?_
  rintro e w1 ⟨⟨x, rfl, hx⟩, HD⟩
  rcases hx with ⟨rfl, hno⟩ | ⟨k, rfl, hk, hsm, hlast⟩
  · have HN : Hid _ := hno
    clear hno
    go_wp2
    go_ret2
    exact ⟨.inl ⟨rfl, HN.out⟩, HD⟩
  · have HN : Hid _ := hlast
    have HS : Hid _ := hsm
    clear hlast hsm
    obtain ⟨b, off, rfl, hc, hc', hsN, hsV⟩ := (h.below (Nat.le_refl _) (drewAll HD)) k hk
    have g0 := (drewCell HD _).trans h0
    have hki : (k : Int) < (n : Int) := by omega
    have HD' : Hid _ := HD
    clear HD
    go_wp2
    go_ret2
    exact ⟨.inr ⟨k, rfl, hk, HS.out, HN.out⟩, HD'.out⟩

/-- What the bound on lengths answers: where it says yes each name has at most 2^20 bytes. -/
def BytesOk (n : Nat) (S : Nat → ByteArray) (e : Ending) : Prop := ∃ x, e = .returned (.bool x) ∧ (x = true → ∀ i, i < n → (S i).size ≤ 1048576)
theorem bytesNo (n : Nat) (S : Nat → ByteArray) : BytesOk n S (.returned (.bool false)) := ⟨false, rfl, fun h => by cases h⟩
theorem bytesYes {n : Nat} {S : Nat → ByteArray} (h : ∀ i, i < n → (S i).size ≤ 1048576) : BytesOk n S (.returned (.bool true)) := ⟨true, rfl, fun _ => h⟩

set_option maxHeartbeats 1600000 in
theorem bytesU8_any (a : Option Addr) (n c : Nat) (S : Nat → ByteArray) (a1 : Option Addr) (n1 c1 : Nat) (V : Nat → ByteArray) (d : Bool) (w : World) (h : Strs w a n S) (hV : Strs w a1 n1 V) (hn : n ≤ maxLen) (hn1 : n1 ≤ maxLen) :
    Calls Try.prog 8 #[.slice a n c, .slice a1 n1 c1, .bool d] w fun e w' => BytesOk n S e ∧ w' = w := by
  unfold maxLen at hn hn1
  by_cases h20 : n ≤ 1048576
  · have hd : decide ((1048576 : Int) < (n : Int)) = false := by simp; omega
    go_enter Try.func8, Try.ntmps8
    go_wp2
    go_loop [7, 8] (fun t i => ∃ (k : Nat) (x : Int), k ≤ n ∧ i = .int .i64 k ∧ t = .int .i64 x ∧ Hid (∀ i, i < k → (S i).size ≤ 1048576)) (fun _ i => n - (intOf i).toNat)
    case atStart => exact ⟨0, _, Nat.zero_le _, rfl, rfl, fun i hi => by omega⟩
    case round =>
      obtain ⟨k, x, hk, rfl, rfl, hall⟩ := hrel
      by_cases hlt : k < n
      · obtain ⟨b, off, rfl, hc, hs⟩ := h k hlt
        unfold maxLen at hs
        go_wp2
        all_goals first | (go_ret; exact ⟨bytesNo n S, rfl⟩) | skip
        go_round
        case rel =>
          have hle : ((S k).size : Int) ≤ 1048576 := by assumption
          refine ⟨k + 1, _, by omega, by go_num, rfl, fun i hi => ?_⟩
          by_cases e : i = k
          · subst e; omega
          · exact hall.out i (by omega)
        case measure => simp [intOf]; omega
      · have hall' : Hid (∀ i, i < n → (S i).size ≤ 1048576) := fun i hi => hall.out i (by omega)
        by_cases h21 : n1 ≤ 1048576
        · have hd1 : decide ((1048576 : Int) < (n1 : Int)) = false := by simp; omega
          by_cases hx : (1048576 : Int) < wrap64 (x + n1)
          · go_wp2
            go_ret
            exact ⟨bytesNo n S, rfl⟩
          · have hdx : decide ((1048576 : Int) < wrap64 (x + n1)) = false := by simp; omega
            clear hx
            go_wp2
            go_loop [7, 9] (fun t i => ∃ (k : Nat) (x : Int), k ≤ n1 ∧ i = .int .i64 k ∧ t = .int .i64 x) (fun _ i => n1 - (intOf i).toNat)
            case atStart => exact ⟨0, _, Nat.zero_le _, rfl, rfl⟩
            case round =>
              obtain ⟨k', x', hk', rfl, rfl⟩ := hrel
              by_cases hlt' : k' < n1
              · obtain ⟨b, off, rfl, hc, hs⟩ := hV k' hlt'
                unfold maxLen at hs
                go_wp2
                all_goals first | (go_ret; exact ⟨bytesNo n S, rfl⟩) | skip
                go_round
                case rel => exact ⟨k' + 1, _, by omega, by go_num, rfl⟩
                case measure => simp [intOf]; omega
              · go_wp2
                go_ret
                exact ⟨bytesYes hall'.out, rfl⟩
        · go_wp2
          go_ret
          exact ⟨bytesNo n S, rfl⟩
  · go_enter Try.func8, Try.ntmps8
    go_wp2
    go_ret
    exact ⟨bytesNo n S, rfl⟩

set_option maxHeartbeats 1600000 in
theorem bytesU16_any (a : Option Addr) (n c : Nat) (S : Nat → ByteArray) (a1 : Option Addr) (n1 c1 : Nat) (V : Nat → ByteArray) (d : Bool) (w : World) (h : Strs w a n S) (hV : Strs w a1 n1 V) (hn : n ≤ maxLen) (hn1 : n1 ≤ maxLen) :
    Calls Try.prog 16 #[.slice a n c, .slice a1 n1 c1, .bool d] w fun e w' => BytesOk n S e ∧ w' = w := by
  unfold maxLen at hn hn1
  by_cases h20 : n ≤ 1048576
  · have hd : decide ((1048576 : Int) < (n : Int)) = false := by simp; omega
    go_enter Try.func16, Try.ntmps16
    go_wp2
    go_loop [7, 8] (fun t i => ∃ (k : Nat) (x : Int), k ≤ n ∧ i = .int .i64 k ∧ t = .int .i64 x ∧ Hid (∀ i, i < k → (S i).size ≤ 1048576)) (fun _ i => n - (intOf i).toNat)
    case atStart => exact ⟨0, _, Nat.zero_le _, rfl, rfl, fun i hi => by omega⟩
    case round =>
      obtain ⟨k, x, hk, rfl, rfl, hall⟩ := hrel
      by_cases hlt : k < n
      · obtain ⟨b, off, rfl, hc, hs⟩ := h k hlt
        unfold maxLen at hs
        go_wp2
        all_goals first | (go_ret; exact ⟨bytesNo n S, rfl⟩) | skip
        go_round
        case rel =>
          have hle : ((S k).size : Int) ≤ 1048576 := by assumption
          refine ⟨k + 1, _, by omega, by go_num, rfl, fun i hi => ?_⟩
          by_cases e : i = k
          · subst e; omega
          · exact hall.out i (by omega)
        case measure => simp [intOf]; omega
      · have hall' : Hid (∀ i, i < n → (S i).size ≤ 1048576) := fun i hi => hall.out i (by omega)
        by_cases h21 : n1 ≤ 1048576
        · have hd1 : decide ((1048576 : Int) < (n1 : Int)) = false := by simp; omega
          by_cases hx : (1048576 : Int) < wrap64 (x + n1)
          · go_wp2
            go_ret
            exact ⟨bytesNo n S, rfl⟩
          · have hdx : decide ((1048576 : Int) < wrap64 (x + n1)) = false := by simp; omega
            clear hx
            go_wp2
            go_loop [7, 9] (fun t i => ∃ (k : Nat) (x : Int), k ≤ n1 ∧ i = .int .i64 k ∧ t = .int .i64 x) (fun _ i => n1 - (intOf i).toNat)
            case atStart => exact ⟨0, _, Nat.zero_le _, rfl, rfl⟩
            case round =>
              obtain ⟨k', x', hk', rfl, rfl⟩ := hrel
              by_cases hlt' : k' < n1
              · obtain ⟨b, off, rfl, hc, hs⟩ := hV k' hlt'
                unfold maxLen at hs
                go_wp2
                all_goals first | (go_ret; exact ⟨bytesNo n S, rfl⟩) | skip
                go_round
                case rel => exact ⟨k' + 1, _, by omega, by go_num, rfl⟩
                case measure => simp [intOf]; omega
              · go_wp2
                go_ret
                exact ⟨bytesYes hall'.out, rfl⟩
        · go_wp2
          go_ret
          exact ⟨bytesNo n S, rfl⟩
  · go_enter Try.func16, Try.ntmps16
    go_wp2
    go_ret
    exact ⟨bytesNo n S, rfl⟩
end Go.Proofs.Qxb6001758a

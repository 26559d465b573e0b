/- zzHasByte, zzExpect, zzReadUntil, zzParseHeader, the bound. -/
import Derived.Test.Qxb6600728aFam
import Derived.Laws.IdiomStrings
import Derived.Deep.QuietTactic
import Derived.BigQuiet
namespace Go.Proofs.Qxb6600728a
open Go.RowKit
set_option linter.unusedVariables false
set_option linter.unusedSimpArgs false

theorem ret_bool {a b : Bool} (h : a = b) : Ending.returned (.bool a) = .returned (.bool b) := by rw [h]

/-- Does the byte c stand in s? -/
def hasB (s : ByteArray) (c : Int) : Bool := s.data.toList.any fun b => (b.toNat : Int) == c

theorem hasB_no {s : ByteArray} {c : Int} (h : ∀ j (hj : j < s.size), ¬ ((s[j].toNat : Int) = c)) : hasB s c = false := by
  simp only [hasB, List.any_eq_false]
  intro b hb
  obtain ⟨j, hj, e⟩ := List.getElem_of_mem hb
  have := h j (by simpa using hj)
  have e2 : s[j]'(by simpa using hj) = b := by rw [← e]; rfl
  rw [e2] at this
  simpa using this

theorem hasB_yes {s : ByteArray} {c : Int} (j : Nat) (hj : j < s.size) (h : (s[j].toNat : Int) = c) : hasB s c = true := by
  simp only [hasB, List.any_eq_true]
  have hj' : j < s.data.toList.length := by simpa using hj
  refine ⟨s.data.toList[j], List.getElem_mem hj', ?_⟩
  have e2 : s.data.toList[j] = s[j] := rfl
  rw [e2]
  simpa using h

set_option maxHeartbeats 400000 in
theorem has_any (s : ByteArray) (c : Int) (w : World) (hs : s.size ≤ maxLen) :
    Calls Try.prog 5 #[.string s, .int .u8 c] w fun e w' => e = .returned (.bool (hasB s c)) ∧ w' = w := by
  unfold maxLen at hs
  go_enter Try.func5, Try.ntmps5
  go_wp2
  go_loop [5] (fun i => ∃ k : Nat, k ≤ s.size ∧ i = .int .i64 k ∧ Hid (∀ j (hj : j < s.size), j < k → ¬ ((s[j].toNat : Int) = c))) (fun i => s.size - (intOf i).toNat)
  case atStart => exact ⟨0, Nat.zero_le _, rfl, fun j _ h => by omega⟩
  case round =>
    obtain ⟨k, hk, rfl, hall⟩ := hrel
    by_cases hlt : k < s.size
    · by_cases hc : (s[k].toNat : Int) = c
      · have hb : ((s[k].toNat : Int) == c) = true := by simp [hc]
        have HC : Hid ((s[k].toNat : Int) = c) := hc
        clear hc
        go_wp2
        go_ret
        exact ⟨ret_bool (hasB_yes k hlt HC.out).symm, rfl⟩
      · have hb : ((s[k].toNat : Int) == c) = false := by simp [hc]
        have HC : Hid (¬ (s[k].toNat : Int) = c) := hc
        clear hc
        go_wp2
        go_round
        case rel =>
          refine ⟨k + 1, by omega, by go_num, fun j hj h => ?_⟩
          by_cases e : j = k
          · subst e; exact HC.out
          · exact hall.out j hj (by omega)
        case measure => simp [intOf]; omega
    · go_wp2
      go_ret
      exact ⟨ret_bool (hasB_no (fun j hj => hall.out j hj (by omega))).symm, rfl⟩

/-- The i-th byte of a list. -/
def at8 (L : List UInt8) (i : Nat) : UInt8 := L.getD i 0

/-- The row of block g holds the bytes L. -/
def Buf (w : World) (g : Nat) (L : List UInt8) : Prop := ∀ j, j < L.length → w.cell? ⟨g, j, none⟩ = some (.int .u8 ((at8 L j).toNat : Int))

set_option maxHeartbeats 800000 in
theorem expect_any (g cap : Nat) (L : List UInt8) (i : Nat) (s : ByteArray) (w : World) (hB : Buf w g L) (hL : L.length ≤ 100000000) (hi : i + s.size ≤ L.length) (hm : ∀ k (hk : k < s.size), at8 L (i + k) = s[k]) :
    Calls Try.prog 10 #[.slice (some ⟨g, 0, none⟩) L.length cap, .int .i64 i, .string s] w fun e w' => e = .returned (.tuple #[.int .i64 ((i : Int) + (s.size : Int)), .bool true]) ∧ ∃ n, w' = w.drewN n := by
  have hd0 : decide ((i : Int) < 0) = false := by simp
  have hd1 : decide ((L.length : Int) - (i : Int) < (s.size : Int)) = false := by simp; omega
  go_enter Try.func10, Try.ntmps10
  go_wp2
  go_loopw [8] (fun j wr => ∃ k : Nat, k ≤ s.size ∧ j = .int .i64 k ∧ Hid (∃ n, wr = w.drewN n)) (fun j _ => s.size - (intOf j).toNat)
  case atStart => exact ⟨0, Nat.zero_le _, rfl, ⟨0, rfl⟩⟩
  case round =>
    obtain ⟨k, hk, rfl, HD⟩ := hrel
    by_cases hlt : k < s.size
    · have hc : wr.cell? ⟨g, i + k, none⟩ = some (.int .u8 ((at8 L (i + k)).toNat : Int)) := by obtain ⟨n, rfl⟩ := HD.out; exact hB (i + k) (by omega)
      have hne : (((at8 L (i + k)).toNat : Int) != (s[k].toNat : Int)) = false := by rw [hm k hlt]; simp
      have hidx : (i : Int) + (k : Int) < (L.length : Int) := by omega
      go_wp2
      go_quiet (fail)
      go_wp2
      go_roundw
      case rel =>
        refine ⟨k + 1, by omega, by go_num, ?_⟩
        obtain ⟨n, e⟩ := HD.out
        exact ⟨n + nq, by rw [e, World.drewN_drewN]⟩
      case measure => simp [intOf]; omega
    · go_wp2
      go_ret2
      exact ⟨rfl, HD.out⟩

theorem cut_length (L : List UInt8) (i j : Nat) (h : j ≤ L.length) : ((L.drop i).take (j - i)).length = j - i := by
  rw [List.length_take, List.length_drop]; omega

theorem cut_at (L : List UInt8) (i j k : Nat) (h : j ≤ L.length) (hk : k < ((L.drop i).take (j - i)).length) : ((L.drop i).take (j - i))[k] = at8 L (i + k) := by
  have hl := cut_length L i j h
  simp only [List.getElem_take, List.getElem_drop, at8, List.getD]
  rw [List.getElem?_eq_getElem (by omega)]
  rfl

set_option maxHeartbeats 800000 in
theorem until_any (g cap : Nat) (L : List UInt8) (i j : Nat) (c : Int) (w : World) (hB : Buf w g L) (hL : L.length ≤ 100000000) (hcap : L.length ≤ cap) (hij : i ≤ j) (hj : j < L.length) (hs : ((at8 L j).toNat : Int) = c) (hn : ∀ k, i ≤ k → k < j → ¬ ((at8 L k).toNat : Int) = c) :
    Calls Try.prog 11 #[.slice (some ⟨g, 0, none⟩) L.length cap, .int .i64 i, .int .u8 c] w fun e w' => e = .returned (.tuple #[.string ⟨((L.drop i).take (j - i)).toArray⟩, .int .i64 ((j : Int) + 1), .bool true]) ∧ w' = w := by
  have hcut := cut_length L i j (by omega)
  have hcv := run_convert_bytes_back (P := Try.prog) w 25 9 5 ⟨g, i, none⟩ (cap - i) ((L.drop i).take (j - i)) Try.underlying25 Try.underlying5 Try.underlying9 (fun k hk => by
    rw [Addr.add_lit, hB (i + k) (by omega), cut_at L i j k (by omega) hk])
  rw [hcut] at hcv
  clear hcut
  have hnc : ¬ cap = i := by omega
  have HS : Hid (((at8 L j).toNat : Int) = c) := hs
  have HN : Hid (∀ k, i ≤ k → k < j → ¬ ((at8 L k).toNat : Int) = c) := hn
  clear hs hn
  generalize (L.drop i).take (j - i) = l at *
  go_enter Try.func11, Try.ntmps11
  go_wp2
  go_loop [9] (fun p => ∃ k : Nat, i ≤ k ∧ k ≤ j ∧ p = .int .i64 k) (fun p => j - (intOf p).toNat)
  case atStart => exact ⟨i, Nat.le_refl _, hij, rfl⟩
  case round =>
    obtain ⟨k, hk1, hk2, rfl⟩ := hrel
    have hck := hB k (by omega)
    have hki : (k : Int) < (L.length : Int) := by omega
    by_cases hlt : k < j
    · have hb : (((at8 L k).toNat : Int) == c) = false := by have := HN.out k hk1 hlt; simp [this]
      go_wp2
      go_round
      case rel => exact ⟨k + 1, by omega, by omega, by go_num⟩
      case measure => simp [intOf]; omega
    · obtain rfl : j = k := by omega
      have hb : (((at8 L j).toNat : Int) == c) = true := by have := HS.out; simp [this]
      go_wp2
      go_ret3
      exact ⟨rfl, rfl⟩

/-- In L, at p, stand the bytes B. -/
def Seg (L : List UInt8) (p : Nat) (B : List UInt8) : Prop := p + B.length ≤ L.length ∧ ∀ k, k < B.length → at8 L (p + k) = at8 B k

theorem Seg.of {L A B C : List UInt8} {p : Nat} (h : L = A ++ (B ++ C)) (hp : A.length = p) : Seg L p B := by
  subst h hp
  refine ⟨by simp, fun k hk => ?_⟩
  simp only [at8, List.getD]
  rw [List.getElem?_append_right (by omega), Nat.add_sub_cancel_left, List.getElem?_append_left hk]

theorem Seg.cut {L B : List UInt8} {p : Nat} (h : Seg L p B) : (L.drop p).take (p + B.length - p) = B := by
  have hl := cut_length L p (p + B.length) h.1
  apply List.ext_getElem
  · rw [hl]; omega
  · intro k h1 h2
    rw [cut_at L p (p + B.length) k h.1 h1, h.2 k h2]
    simp [at8, List.getD, h2]

theorem at8_str (s : ByteArray) (k : Nat) (hk : k < s.size) : at8 s.data.toList k = s[k] := by
  have hk' : k < s.data.toList.length := by simpa using hk
  simp only [at8, List.getD, List.getElem?_eq_getElem hk', Option.getD_some]
  rfl

theorem no_byte {s : ByteArray} {c : Int} (h : hasB s c = false) (k : Nat) (hk : k < s.data.toList.length) : ¬ ((at8 s.data.toList k).toNat : Int) = c := by
  intro e
  have hk' : k < s.size := by simpa using hk
  rw [at8_str s k hk'] at e
  rw [hasB_yes k hk' e] at h
  cases h

/-- expect, at a segment. -/
theorem expect_seg (g cap : Nat) (L : List UInt8) (i : Nat) (x : Int) (hx : x = (i : Int)) (s : ByteArray) (w : World) (hB : Buf w g L) (hL : L.length ≤ 100000000) (hs : Seg L i s.data.toList) :
    Calls Try.prog 10 #[.slice (some ⟨g, 0, none⟩) L.length cap, .int .i64 x, .string s] w fun e w' => e = .returned (.tuple #[.int .i64 ((i : Int) + (s.size : Int)), .bool true]) ∧ ∃ n, w' = w.drewN n := by
  subst hx
  refine expect_any g cap L i s w hB hL (by have := hs.1; simpa using this) (fun k hk => ?_)
  rw [hs.2 k (by simpa using hk), at8_str s k hk]

/-- until, at a segment. -/
theorem until_seg (g cap : Nat) (L : List UInt8) (i : Nat) (x : Int) (hx : x = (i : Int)) (s : ByteArray) (b : UInt8) (c : Int) (hc : c = (b.toNat : Int)) (w : World) (hB : Buf w g L) (hL : L.length ≤ 100000000) (hcap : L.length ≤ cap) (hs : Seg L i s.data.toList) (he : Seg L (i + s.size) [b]) (hn : hasB s c = false) :
    Calls Try.prog 11 #[.slice (some ⟨g, 0, none⟩) L.length cap, .int .i64 x, .int .u8 c] w fun e w' => e = .returned (.tuple #[.string s, .int .i64 (((i + s.size : Nat) : Int) + 1), .bool true]) ∧ w' = w := by
  subst hx
  have hz : s.data.toList.length = s.size := by simp
  have hj : i + s.size < L.length := by have := he.1; simp at this; omega
  have hst : ((at8 L (i + s.size)).toNat : Int) = c := by
    have := he.2 0 (by simp)
    rw [Nat.add_zero] at this
    rw [this, hc]
    rfl
  have hno : ∀ k, i ≤ k → k < i + s.size → ¬ ((at8 L k).toNat : Int) = c := by
    intro k h1 h2
    have := hs.2 (k - i) (by omega)
    rw [show i + (k - i) = k by omega] at this
    rw [this]
    exact no_byte hn (k - i) (by omega)
  have hr := until_any g cap L i (i + s.size) c w hB hL hcap (by omega) hj hst hno
  have hcut := hs.cut
  rw [hz] at hcut
  rw [hcut] at hr
  exact hr

/-- '# TYPE ' -/
def type7B : ByteArray := ⟨#[35, 32, 84, 89, 80, 69, 32]⟩

/-- Where the parts of a header stand. -/
structure Hdr (L : List UInt8) (i : Nat) (name typ help : ByteArray) : Prop where
  s1 : Seg L i helpB.data.toList
  s2 : Seg L (i + 7) name.data.toList
  s3 : Seg L (i + 7 + name.size) [32]
  s4 : Seg L (i + 7 + name.size + 1) help.data.toList
  s5 : Seg L (i + 7 + name.size + 1 + help.size) [10]
  s6 : Seg L (i + 7 + name.size + 1 + help.size + 1) type7B.data.toList
  s7 : Seg L (i + 7 + name.size + 1 + help.size + 1 + 7) name.data.toList
  s8 : Seg L (i + 7 + name.size + 1 + help.size + 1 + 7 + name.size) [32]
  s9 : Seg L (i + 7 + name.size + 1 + help.size + 1 + 7 + name.size + 1) typ.data.toList
  s10 : Seg L (i + 7 + name.size + 1 + help.size + 1 + 7 + name.size + 1 + typ.size) [10]

theorem hdr_at (P R : List UInt8) (name typ help : ByteArray) : Hdr (P ++ (hdrL name typ help ++ R)) P.length name typ help := by
  have l1 : helpL.length = 7 := rfl
  have l2 : name.data.toList.length = name.size := by simp
  have l3 : help.data.toList.length = help.size := by simp
  have l4 : typ.data.toList.length = typ.size := by simp
  have l6 : type7B.data.toList.length = 7 := rfl
  have et : typeL = 10 :: type7B.data.toList := rfl
  have eh : helpL = helpB.data.toList := rfl
  have e : P ++ (hdrL name typ help ++ R) = P ++ (helpB.data.toList ++ (name.data.toList ++ ([32] ++ (help.data.toList ++ ([10] ++ (type7B.data.toList ++ (name.data.toList ++ ([32] ++ (typ.data.toList ++ ([10] ++ R)))))))))) := by
    simp [hdrL, et, eh]
  have l0 : helpB.data.toList.length = 7 := rfl
  rw [e]
  refine ⟨Seg.of rfl rfl, ?_, ?_, ?_, ?_, ?_, ?_, ?_, ?_, ?_⟩
  · exact Seg.of (A := P ++ helpB.data.toList) (C := [32] ++ (help.data.toList ++ ([10] ++ (type7B.data.toList ++ (name.data.toList ++ ([32] ++ (typ.data.toList ++ ([10] ++ R)))))))) (by simp only [List.append_assoc]) (by simp only [List.length_append, List.length_cons, List.length_nil, l0, l2, l3, l4, l6] <;> omega)
  · exact Seg.of (A := P ++ (helpB.data.toList ++ name.data.toList)) (C := (help.data.toList ++ ([10] ++ (type7B.data.toList ++ (name.data.toList ++ ([32] ++ (typ.data.toList ++ ([10] ++ R)))))))) (by simp only [List.append_assoc]) (by simp only [List.length_append, List.length_cons, List.length_nil, l0, l2, l3, l4, l6] <;> omega)
  · exact Seg.of (A := P ++ (helpB.data.toList ++ (name.data.toList ++ [32]))) (C := (([10] ++ (type7B.data.toList ++ (name.data.toList ++ ([32] ++ (typ.data.toList ++ ([10] ++ R)))))))) (by simp only [List.append_assoc]) (by simp only [List.length_append, List.length_cons, List.length_nil, l0, l2, l3, l4, l6] <;> omega)
  · exact Seg.of (A := P ++ (helpB.data.toList ++ (name.data.toList ++ ([32] ++ help.data.toList)))) (C := ((type7B.data.toList ++ (name.data.toList ++ ([32] ++ (typ.data.toList ++ ([10] ++ R))))))) (by simp only [List.append_assoc]) (by simp only [List.length_append, List.length_cons, List.length_nil, l0, l2, l3, l4, l6] <;> omega)
  · exact Seg.of (A := P ++ (helpB.data.toList ++ (name.data.toList ++ ([32] ++ (help.data.toList ++ [10]))))) (C := ((name.data.toList ++ ([32] ++ (typ.data.toList ++ ([10] ++ R)))))) (by simp only [List.append_assoc]) (by simp only [List.length_append, List.length_cons, List.length_nil, l0, l2, l3, l4, l6] <;> omega)
  · exact Seg.of (A := P ++ (helpB.data.toList ++ (name.data.toList ++ ([32] ++ (help.data.toList ++ ([10] ++ type7B.data.toList)))))) (C := (([32] ++ (typ.data.toList ++ ([10] ++ R))))) (by simp only [List.append_assoc]) (by simp only [List.length_append, List.length_cons, List.length_nil, l0, l2, l3, l4, l6] <;> omega)
  · exact Seg.of (A := P ++ (helpB.data.toList ++ (name.data.toList ++ ([32] ++ (help.data.toList ++ ([10] ++ (type7B.data.toList ++ name.data.toList))))))) (C := ((typ.data.toList ++ ([10] ++ R)))) (by simp only [List.append_assoc]) (by simp only [List.length_append, List.length_cons, List.length_nil, l0, l2, l3, l4, l6] <;> omega)
  · exact Seg.of (A := P ++ (helpB.data.toList ++ (name.data.toList ++ ([32] ++ (help.data.toList ++ ([10] ++ (type7B.data.toList ++ (name.data.toList ++ [32])))))))) (C := (([10] ++ R))) (by simp only [List.append_assoc]) (by simp only [List.length_append, List.length_cons, List.length_nil, l0, l2, l3, l4, l6] <;> omega)
  · exact Seg.of (A := P ++ (helpB.data.toList ++ (name.data.toList ++ ([32] ++ (help.data.toList ++ ([10] ++ (type7B.data.toList ++ (name.data.toList ++ ([32] ++ typ.data.toList))))))))) (C := R) (by simp only [List.append_assoc]) (by simp only [List.length_append, List.length_cons, List.length_nil, l0, l2, l3, l4, l6] <;> omega)

set_option maxHeartbeats 1600000 in
theorem parse_any (g cap : Nat) (L : List UInt8) (i : Nat) (x : Int) (hx : x = (i : Int)) (name typ help : ByteArray) (w : World) (hB : Buf w g L) (hL : L.length ≤ 100000000) (hcap : L.length ≤ cap) (hH : Hdr L i name typ help)
    (n1 : hasB name 32 = false) (n2 : hasB help 10 = false) (n3 : hasB typ 10 = false) :
    Calls Try.prog 9 #[.slice (some ⟨g, 0, none⟩) L.length cap, .int .i64 x] w fun e w' =>
      e = .returned (.tuple #[.string name, .string help, .string typ, .int .i64 (((i + 7 + name.size + 1 + help.size + 1 + 7 + name.size + 1 + typ.size : Nat) : Int) + 1), .bool true]) ∧ ∃ n, w' = w.drewN n := by
  have hnot : ∀ (x : Bool) (w : World), (Op.unary .not (.bool x)).run Try.prog w = .ok (.bool (!x)) w := fun _ _ => rfl
  have hBd : ∀ w', (∃ n, w' = w.drewN n) → Buf w' g L := by rintro w' ⟨n, rfl⟩; exact hB
  have HB : Hid _ := hBd
  have hb0 := hH.s10.1
  simp only [List.length_cons, List.length_nil] at hb0
  clear hBd
  subst hx
  go_enter Try.func9, Try.ntmps9
  go_wp2_with fail
  refine (expect_seg g cap L i _ rfl ⟨#[35, 32, 72, 69, 76, 80, 32]⟩ _ hB hL hH.s1).mono ?_
  rintro e w1 ⟨rfl, HD1⟩
  have H1 : Hid (∃ n, w1 = w.drewN n) := HD1
  clear HD1
  go_wp2_with fail
  refine (until_seg g cap L (i + 7) _ (by omega) name 32 _ rfl _ (HB.out _ H1.out) hL hcap hH.s2 hH.s3 n1).mono ?_
  rintro e w2 ⟨rfl, hw⟩
  rw [hw]
  clear hw w2
  go_wp2_with fail
  refine (until_seg g cap L (i + 7 + name.size + 1) _ (by omega) help 10 _ rfl _ (HB.out _ H1.out) hL hcap hH.s4 hH.s5 n2).mono ?_
  rintro e w2 ⟨rfl, hw⟩
  rw [hw]
  clear hw w2
  go_wp2_with fail
  refine (expect_seg g cap L (i + 7 + name.size + 1 + help.size + 1) _ (by omega) ⟨#[35, 32, 84, 89, 80, 69, 32]⟩ _ (HB.out _ H1.out) hL hH.s6).mono ?_
  rintro e w3 ⟨rfl, HD3⟩
  have H3 : Hid (∃ n, w3 = w.drewN n) := by
    obtain ⟨n, e1⟩ := H1.out
    obtain ⟨m, e3⟩ := HD3
    exact ⟨n + m, by rw [e3, e1, World.drewN_drewN]⟩
  clear HD3 H1
  go_wp2_with fail
  refine (until_seg g cap L (i + 7 + name.size + 1 + help.size + 1 + 7) _ (by omega) name 32 _ rfl _ (HB.out _ H3.out) hL hcap hH.s7 hH.s8 n1).mono ?_
  rintro e w4 ⟨rfl, hw⟩
  rw [hw]
  clear hw w4
  go_wp2_with fail
  refine (until_seg g cap L (i + 7 + name.size + 1 + help.size + 1 + 7 + name.size + 1) _ (by omega) typ 10 _ rfl _ (HB.out _ H3.out) hL hcap hH.s9 hH.s10 n3).mono ?_
  rintro e w4 ⟨rfl, hw⟩
  rw [hw]
  clear hw w4
  go_wp2
  exact bodyPost_ret (v := .tuple #[.string name, .string help, .string typ, .int .i64 (((i + 7 + name.size + 1 + help.size + 1 + 7 + name.size + 1 + typ.size : Nat) : Int) + 1), .bool true]) (by simp [results, Try.results9, go_sem]) rfl ⟨rfl, H3.out⟩

def AnyBool (e : Ending) : Prop := ∃ x, e = .returned (.bool x)
theorem anyBool (x : Bool) : AnyBool (.returned (.bool x)) := ⟨x, rfl⟩

set_option maxHeartbeats 1600000 in
theorem bytes_any (a b c d e f : ByteArray) (w : World) (ha : a.size ≤ maxLen) (hb : b.size ≤ maxLen) (hc : c.size ≤ maxLen) (hd : d.size ≤ maxLen) (he : e.size ≤ maxLen) (hf : f.size ≤ maxLen) :
    Calls Try.prog 4 #[.string a, .string b, .string c, .string d, .string e, .string f] w fun e w' => AnyBool e ∧ w' = w := by
  unfold maxLen at ha hb hc hd he hf
  go_enter Try.func4, Try.ntmps4
  go_wp2
  all_goals (go_ret; exact ⟨anyBool _, rfl⟩)
end Go.Proofs.Qxb6600728a

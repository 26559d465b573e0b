/- FnFamilyHeadersParseBack: the walk. -/
import Derived.Test.Qxb6600728aRead
namespace Go.Proofs.Qxb6600728a
open Go.RowKit
set_option linter.unusedVariables false

set_option maxHeartbeats 400000 in
theorem famOf_any (wb : Nat) (L : List UInt8) (fam : ByteArray) (v : Value) (w : World) (hS : WSt wb w L fam v) :
    Calls Try.prog 7 #[.pointer (some ⟨wb, 0, none⟩)] w fun e w' => e = .returned (.string fam) ∧ w' = w := by
  have c1 := hS.cell1
  go_enter Try.func7, Try.ntmps7
  go_wp2
  go_ret
  exact ⟨rfl, rfl⟩

set_option maxHeartbeats 400000 in
theorem bytesOf_any (wb g n c : Nat) (L : List UInt8) (fam : ByteArray) (w : World) (hS : WSt wb w L fam (.slice (some ⟨g, 0, none⟩) n c)) :
    Calls Try.prog 8 #[.pointer (some ⟨wb, 0, none⟩)] w fun e w' => e = .returned (.slice (some ⟨g, 0, none⟩) n c) ∧ w' = w := by
  have c1 := hS.cell0
  go_enter Try.func8, Try.ntmps8
  go_wp2
  go_ret
  exact ⟨rfl, rfl⟩

theorem WSt.shape {wb : Nat} {w : World} {L : List UInt8} {fam : ByteArray} {v : Value} (h : WSt wb w L fam v) (hL : 0 < L.length) : ∃ g c, v = .slice (some ⟨g, 0, none⟩) L.length c ∧ L.length ≤ c ∧ Buf w g L := by
  rcases h.own.2 with ⟨_, h0⟩ | ⟨g, c, cur, rfl, _, _, hc, _⟩
  · omega
  refine ⟨g, c, rfl, hc, fun j hj => ?_⟩
  rw [h.own.cellAt j (by omega)]
  simp [byteV, at8, List.getD, hj]

theorem hdrL_length (name typ help : ByteArray) : (hdrL name typ help).length = 7 + name.size + 1 + help.size + 1 + 7 + name.size + 1 + typ.size + 1 := by
  have l2 : name.data.toList.length = name.size := by simp
  have l3 : help.data.toList.length = help.size := by simp
  have l4 : typ.data.toList.length = typ.size := by simp
  have l1 : helpL.length = 7 := rfl
  have l5 : typeL.length = 8 := rfl
  simp only [hdrL, List.length_append, List.length_cons, List.length_nil, l1, l2, l3, l4, l5]
  omega

theorem WSt.made (w : World) : WSt w.heap.size (w.alloc (.cells #[.slice none 0 0, .string ByteArray.empty] 27)) [] ByteArray.empty (.slice none 0 0) :=
  ⟨heap_alloc_new w _, World.ownsRow_nil _ _ _ _⟩

set_option maxRecDepth 100000 in
set_option maxHeartbeats 6400000 in
theorem famWalk (n1 t1 h1 n2 t2 h2 : ByteArray) (z0 : n1.size ≤ maxLen) (z1 : t1.size ≤ maxLen) (z2 : h1.size ≤ maxLen) (z3 : n2.size ≤ maxLen) (z4 : t2.size ≤ maxLen) (z5 : h2.size ≤ maxLen) (w : World) :
    Calls Try.prog 3 #[.string n1, .string t1, .string h1, .string n2, .string t2, .string h2] w fun e w' => e = .returned (.bool true) ∧ Below w.heap.size w w' := by
  have hnot : ∀ (x : Bool) (w : World), (Op.unary .not (.bool x)).run Try.prog w = .ok (.bool (!x)) w := fun _ _ => rfl
  have zm0 := z0
  have zm1 := z1
  have zm2 := z2
  have zm3 := z3
  have zm4 := z4
  have zm5 := z5
  unfold maxLen at z0 z1 z2 z3 z4 z5
  go_enter Try.func3, Try.ntmps3
  go_wp2_with fail
  refine (bytes_any n1 t1 h1 n2 t2 h2 _ zm0 zm1 zm2 zm3 zm4 zm5).mono ?_
  rintro e w1 ⟨⟨x, rfl⟩, hw⟩
  rw [hw]
  clear hw w1
  cases x
  · go_wp2
    go_ret
    exact ⟨rfl, Below.refl _ _⟩
  by_cases qn1 : (262144 : Int) < (n1.size : Int)
  · have hd : decide ((262144 : Int) < (n1.size : Int)) = true := by simp; omega
    go_wp2
    go_ret
    exact ⟨rfl, Below.refl _ _⟩
  have dn1 : decide ((262144 : Int) < (n1.size : Int)) = false := by simp; omega
  by_cases qt1 : (262144 : Int) < (t1.size : Int)
  · have hd : decide ((262144 : Int) < (t1.size : Int)) = true := by simp; omega
    go_wp2
    go_ret
    exact ⟨rfl, Below.refl _ _⟩
  have dt1 : decide ((262144 : Int) < (t1.size : Int)) = false := by simp; omega
  by_cases qh1 : (262144 : Int) < (h1.size : Int)
  · have hd : decide ((262144 : Int) < (h1.size : Int)) = true := by simp; omega
    go_wp2
    go_ret
    exact ⟨rfl, Below.refl _ _⟩
  have dh1 : decide ((262144 : Int) < (h1.size : Int)) = false := by simp; omega
  by_cases qn2 : (262144 : Int) < (n2.size : Int)
  · have hd : decide ((262144 : Int) < (n2.size : Int)) = true := by simp; omega
    go_wp2
    go_ret
    exact ⟨rfl, Below.refl _ _⟩
  have dn2 : decide ((262144 : Int) < (n2.size : Int)) = false := by simp; omega
  by_cases qt2 : (262144 : Int) < (t2.size : Int)
  · have hd : decide ((262144 : Int) < (t2.size : Int)) = true := by simp; omega
    go_wp2
    go_ret
    exact ⟨rfl, Below.refl _ _⟩
  have dt2 : decide ((262144 : Int) < (t2.size : Int)) = false := by simp; omega
  by_cases qh2 : (262144 : Int) < (h2.size : Int)
  · have hd : decide ((262144 : Int) < (h2.size : Int)) = true := by simp; omega
    go_wp2
    go_ret
    exact ⟨rfl, Below.refl _ _⟩
  have dh2 : decide ((262144 : Int) < (h2.size : Int)) = false := by simp; omega
  by_cases qs : (1048576 : Int) < 2 * (n1.size : Int) + (t1.size : Int) + (h1.size : Int) + 2 * (n2.size : Int) + (t2.size : Int) + (h2.size : Int)
  · have hd : decide ((1048576 : Int) < 2 * (n1.size : Int) + (t1.size : Int) + (h1.size : Int) + 2 * (n2.size : Int) + (t2.size : Int) + (h2.size : Int)) = true := by simp; omega
    go_wp2
    go_ret
    exact ⟨rfl, Below.refl _ _⟩
  have ds : decide ((1048576 : Int) < 2 * (n1.size : Int) + (t1.size : Int) + (h1.size : Int) + 2 * (n2.size : Int) + (t2.size : Int) + (h2.size : Int)) = false := by simp; omega
  go_wp2_with fail
  refine (has_any n1 32 _ zm0).mono ?_
  rintro e w1 ⟨rfl, hw⟩
  rw [hw]
  clear hw w1
  cases b0 : hasB n1 32
  rotate_left
  · go_wp2
    go_ret
    exact ⟨rfl, Below.refl _ _⟩
  go_wp2_with fail
  refine (has_any n1 10 _ zm0).mono ?_
  rintro e w1 ⟨rfl, hw⟩
  rw [hw]
  clear hw w1
  cases b1 : hasB n1 10
  rotate_left
  · go_wp2
    go_ret
    exact ⟨rfl, Below.refl _ _⟩
  go_wp2_with fail
  refine (has_any n2 32 _ zm3).mono ?_
  rintro e w1 ⟨rfl, hw⟩
  rw [hw]
  clear hw w1
  cases b2 : hasB n2 32
  rotate_left
  · go_wp2
    go_ret
    exact ⟨rfl, Below.refl _ _⟩
  go_wp2_with fail
  refine (has_any n2 10 _ zm3).mono ?_
  rintro e w1 ⟨rfl, hw⟩
  rw [hw]
  clear hw w1
  cases b3 : hasB n2 10
  rotate_left
  · go_wp2
    go_ret
    exact ⟨rfl, Below.refl _ _⟩
  go_wp2_with fail
  refine (has_any t1 10 _ zm1).mono ?_
  rintro e w1 ⟨rfl, hw⟩
  rw [hw]
  clear hw w1
  cases b4 : hasB t1 10
  rotate_left
  · go_wp2
    go_ret
    exact ⟨rfl, Below.refl _ _⟩
  go_wp2_with fail
  refine (has_any h1 10 _ zm2).mono ?_
  rintro e w1 ⟨rfl, hw⟩
  rw [hw]
  clear hw w1
  cases b5 : hasB h1 10
  rotate_left
  · go_wp2
    go_ret
    exact ⟨rfl, Below.refl _ _⟩
  go_wp2_with fail
  refine (has_any t2 10 _ zm4).mono ?_
  rintro e w1 ⟨rfl, hw⟩
  rw [hw]
  clear hw w1
  cases b6 : hasB t2 10
  rotate_left
  · go_wp2
    go_ret
    exact ⟨rfl, Below.refl _ _⟩
  go_wp2_with fail
  refine (has_any h2 10 _ zm5).mono ?_
  rintro e w1 ⟨rfl, hw⟩
  rw [hw]
  clear hw w1
  cases b7 : hasB h2 10
  rotate_left
  · go_wp2
    go_ret
    exact ⟨rfl, Below.refl _ _⟩
  have HS0 : Hid _ := WSt.made w
  have hBel : Below w.heap.size w (w.alloc (.cells #[.slice none 0 0, .string ByteArray.empty] 27)) := (Below.refl _ _).alloc (Nat.le_refl _) _
  have l1 := hdrL_length n1 t1 h1
  have l2 := hdrL_length n2 t2 h2
  have L1 : Hid _ := l1
  have L2 : Hid _ := l2
  clear l1 l2
  go_wp2_with fail
  refine (family_any w.heap.size n1 t1 h1 [] ByteArray.empty _ _ HS0.out (by simp) (by omega) (by omega) (by omega)).mono ?_
  rintro e wA ⟨rfl, ⟨vA, hSA⟩, hBA⟩
  have HSA : Hid _ := hSA
  clear hSA
  go_wp2_with fail
  refine (famOf_any w.heap.size _ n1 vA _ HSA.out).mono ?_
  rintro e w1 ⟨rfl, hw⟩
  rw [hw]
  clear hw w1
  go_wp2_with fail
  refine (family_any w.heap.size n2 t2 h2 _ n1 vA _ HSA.out (by have := L1.out; simp; omega) (by omega) (by omega) (by omega)).mono ?_
  rintro e wB ⟨rfl, ⟨vB, hSB⟩, hBB⟩
  have hLB : ([] ++ hdrL n1 t1 h1 ++ hdrL n2 t2 h2 : List UInt8) = hdrL n1 t1 h1 ++ hdrL n2 t2 h2 := by simp
  rw [hLB] at hSB
  clear hLB
  have hlen : (hdrL n1 t1 h1 ++ hdrL n2 t2 h2).length = (hdrL n1 t1 h1).length + (hdrL n2 t2 h2).length := by simp
  have HLen : Hid _ := hlen
  have hpos : 0 < (hdrL n1 t1 h1 ++ hdrL n2 t2 h2).length := by have := L1.out; omega
  have hmax : (hdrL n1 t1 h1 ++ hdrL n2 t2 h2).length ≤ 100000000 := by have := L1.out; have := L2.out; omega
  clear hlen
  obtain ⟨gB, cB, rfl, hcap, hBuf⟩ := hSB.shape hpos
  have hH1 := hdr_at [] (hdrL n2 t2 h2) n1 t1 h1
  have hH2 := hdr_at (hdrL n1 t1 h1) [] n2 t2 h2
  simp only [List.nil_append, List.append_nil, List.length_nil] at hH1 hH2
  have HH1 : Hid _ := hH1
  have HH2 : Hid _ := hH2
  have HSB : Hid _ := hSB
  have HBuf : Hid _ := hBuf
  clear hH1 hH2 hSB hBuf
  have hfin : (((hdrL n1 t1 h1).length : Int) + 7 + (n2.size : Int) + 1 + (h2.size : Int) + 1 + 7 + (n2.size : Int) + 1 + (t2.size : Int) + 1 == ((hdrL n1 t1 h1 ++ hdrL n2 t2 h2).length : Int)) = true := by
    have := L1.out; have := L2.out; have := HLen.out; rw [beq_iff_eq]; omega
  have HF : Hid _ := hfin
  clear hfin
  generalize hLL : hdrL n1 t1 h1 ++ hdrL n2 t2 h2 = LL at *
  clear hLL
  go_wp2_with fail
  refine (famOf_any w.heap.size _ n2 _ _ HSB.out).mono ?_
  rintro e w1 ⟨rfl, hw⟩
  rw [hw]
  clear hw w1
  go_wp2_with fail
  refine (bytesOf_any w.heap.size gB _ cB _ n2 _ HSB.out).mono ?_
  rintro e w1 ⟨rfl, hw⟩
  rw [hw]
  clear hw w1
  go_wp2_with fail
  refine (parse_any gB cB LL 0 _ (by simp) n1 t1 h1 _ HBuf.out hmax hcap HH1.out b0 b5 b4).mono ?_
  rintro e wC ⟨rfl, HDC⟩
  have HDC' : Hid _ := HDC
  clear HDC
  go_wp2_with fail
  refine (parse_any gB cB LL (hdrL n1 t1 h1).length _ (by have := L1.out; omega) n2 t2 h2 _ (by obtain ⟨n, e⟩ := HDC'.out; rw [e]; exact HBuf.out) hmax hcap HH2.out b2 b7 b6).mono ?_
  rintro e wD ⟨rfl, HDD⟩
  have HDD' : Hid _ := HDD
  clear HDD
  have hfin := HF.out
  go_wp2
  go_ret
  refine ⟨rfl, ?_⟩
  obtain ⟨n, eD⟩ := HDD'.out
  obtain ⟨m, eC⟩ := HDC'.out
  have hB2 : Below w.heap.size w wB := hBel.trans (hBA.trans hBB)
  rw [eD, eC]
  exact ⟨hB2.os, hB2.tape, hB2.output, hB2.size, hB2.block⟩
end Go.Proofs.Qxb6600728a

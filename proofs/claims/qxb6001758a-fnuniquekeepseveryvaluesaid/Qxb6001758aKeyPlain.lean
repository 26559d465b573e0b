/- The key of a name: plain. -/
import Derived.Test.Qxb6001758aPlain
namespace Go.Proofs.Qxb6001758a

def foldU (d : Bool) (c : UInt8) : UInt8 := if d = false ∧ 65 ≤ c.toNat ∧ c.toNat ≤ 90 then c + 32 else c

theorem foldU_nat (d : Bool) (c : UInt8) : ((foldU d c).toNat : Int) = foldI d (c.toNat : Int) := by
  unfold foldU foldI
  by_cases h : d = false ∧ 65 ≤ c.toNat ∧ c.toNat ≤ 90
  · obtain ⟨h1, h2, h3⟩ := h
    rw [if_pos ⟨h1, h2, h3⟩, if_pos ⟨h1, by omega, by omega⟩]
    have : (c + 32).toNat = c.toNat + 32 := by
      rw [UInt8.toNat_add]
      have : (32 : UInt8).toNat = 32 := rfl
      omega
    omega
  · rw [if_neg h, if_neg (fun g => h ⟨g.1, by omega, by omega⟩)]

def keyL (d : Bool) (s : ByteArray) : List UInt8 := s.data.toList.map (foldU d)
def keyB (d : Bool) (s : ByteArray) : ByteArray := ⟨(keyL d s).toArray⟩

theorem keyL_length (d : Bool) (s : ByteArray) : (keyL d s).length = s.size := by simp [keyL]
theorem keyB_size (d : Bool) (s : ByteArray) : (keyB d s).size = s.size := by
  show (keyL d s).toArray.size = s.size
  rw [List.size_toArray, keyL_length]
theorem keyB_list (d : Bool) (s : ByteArray) : (keyB d s).data.toList = keyL d s := by simp [keyB]

theorem fkey_keyL (d : Bool) (s : ByteArray) : fkey d s = (keyL d s).map fun c => (c.toNat : Int) := by
  simp only [fkey, keyL, List.map_map]
  apply List.map_congr_left
  intro c _
  exact (foldU_nat d c).symm

theorem map_inj : ∀ a b : List UInt8, (a.map fun c => (c.toNat : Int)) = (b.map fun c => (c.toNat : Int)) → a = b
  | [], [], _ => rfl
  | [], _ :: _, h => by simp at h
  | _ :: _, [], h => by simp at h
  | x :: a, y :: b, h => by
    simp only [List.map_cons, List.cons.injEq] at h
    rw [map_inj a b h.2, UInt8.toNat_inj.1 (show x.toNat = y.toNat by omega)]

theorem keyL_same (d : Bool) (a b : ByteArray) : sameB d a b = true ↔ keyL d a = keyL d b := by
  rw [sameB_iff, fkey_keyL, fkey_keyL]
  constructor
  · intro h
    exact map_inj _ _ h
  · intro h; rw [h]

/-- The first k bytes folded, the rest as they were. -/
def mixL (d : Bool) (s : ByteArray) (k : Nat) : List UInt8 := (keyL d s).take k ++ s.data.toList.drop k

theorem mixL_zero (d : Bool) (s : ByteArray) : mixL d s 0 = s.data.toList := by simp [mixL]
theorem mixL_all (d : Bool) (s : ByteArray) : mixL d s s.size = keyL d s := by
  have h1 : (keyL d s).length = s.size := keyL_length d s
  have h2 : s.data.toList.length = s.size := by simp
  simp only [mixL]
  rw [List.take_of_length_le (by omega), List.drop_eq_nil_of_le (by omega), List.append_nil]

theorem mixL_get (d : Bool) (s : ByteArray) (k : Nat) (h : k < s.size) : (mixL d s k)[k]? = some s[k] := by
  have h1 : (keyL d s).length = s.size := keyL_length d s
  have h2 : s.data.toList.length = s.size := by simp
  simp only [mixL]
  rw [List.getElem?_append_right (by simp; omega)]
  simp [show k - min k (keyL d s).length = 0 by omega, List.getElem?_drop]
  rw [Array.getElem?_eq_getElem (by exact h)]
  rfl

theorem mixL_set (d : Bool) (s : ByteArray) (k : Nat) (h : k < s.size) : (mixL d s k).set k (foldU d s[k]) = mixL d s (k + 1) := by
  have h1 : (keyL d s).length = s.size := keyL_length d s
  have h2 : s.data.toList.length = s.size := by simp
  have hk : (keyL d s)[k]'(by omega) = foldU d s[k] := by simp [keyL]; rfl
  simp only [mixL]
  rw [List.set_append_right _ _ (by simp; omega)]
  rw [show k - ((keyL d s).take k).length = 0 by simp; omega]
  rw [List.drop_eq_getElem_cons (by omega), List.set_cons_zero, List.take_succ_eq_append_getElem (by omega), hk]
  simp
end Go.Proofs.Qxb6001758a

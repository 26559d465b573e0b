/- Plain functions of this seat: no Go in sight. -/
namespace Go.Proofs.Qxb6001758a

/-- The documented fold of a byte of a field name. -/
def foldI (d : Bool) (c : Int) : Int := if d = false ∧ 65 ≤ c ∧ c ≤ 90 then c + 32 else c

/-- The rule's number: 0 deb822, 1 DCF. -/
def rl (d : Bool) : Int := if d then 1 else 0

/-- The folded bytes of a name. -/
def fkey (d : Bool) (s : ByteArray) : List Int := s.data.toList.map fun c => foldI d c.toNat

/-- Are two names the same? -/
def sameB (d : Bool) (a b : ByteArray) : Bool := decide (fkey d a = fkey d b)

theorem foldI_range (d : Bool) (c : Int) (h0 : 0 ≤ c) (h1 : c ≤ 255) : 0 ≤ foldI d c ∧ foldI d c ≤ 255 := by
  unfold foldI; split <;> omega

theorem fkey_length (d : Bool) (s : ByteArray) : (fkey d s).length = s.size := by simp [fkey]

theorem sameB_iff (d : Bool) (a b : ByteArray) : sameB d a b = true ↔ fkey d a = fkey d b := by simp [sameB]

theorem sameB_size {d : Bool} {a b : ByteArray} (h : a.size ≠ b.size) : sameB d a b = false := by
  simp only [sameB, decide_eq_false_iff_not]
  intro e
  have := congrArg List.length e
  rw [fkey_length, fkey_length] at this
  exact h this

theorem fkey_get (d : Bool) (s : ByteArray) (i : Nat) (h : i < s.size) : (fkey d s)[i]? = some (foldI d (s[i].toNat : Int)) := by
  have h' : i < s.data.toList.length := by simpa using h
  simp only [fkey, List.getElem?_map, List.getElem?_eq_getElem h', Option.map_some]
  rfl

theorem sameB_differ {d : Bool} {a b : ByteArray} (i : Nat) (ha : i < a.size) (hb : i < b.size) (h : foldI d (a[i].toNat : Int) ≠ foldI d (b[i].toNat : Int)) : sameB d a b = false := by
  simp only [sameB, decide_eq_false_iff_not]
  intro e
  have := congrArg (fun l => l[i]?) e
  simp only [fkey_get d a i ha, fkey_get d b i hb, Option.some.injEq] at this
  exact h this

theorem sameB_agree {d : Bool} {a b : ByteArray} (hs : a.size = b.size) (h : ∀ i (ha : i < a.size) (hb : i < b.size), foldI d (a[i].toNat : Int) = foldI d (b[i].toNat : Int)) : sameB d a b = true := by
  rw [sameB_iff]
  apply List.ext_getElem?
  intro i
  by_cases ha : i < a.size
  · rw [fkey_get d a i ha, fkey_get d b i (by omega), h i ha (by omega)]
  · rw [List.getElem?_eq_none (by rw [fkey_length]; omega), List.getElem?_eq_none (by rw [fkey_length]; omega)]

theorem sameB_refl (d : Bool) (a : ByteArray) : sameB d a a = true := by simp [sameB]
theorem sameB_symm (d : Bool) (a b : ByteArray) : sameB d a b = sameB d b a := by simp [sameB, eq_comm]
end Go.Proofs.Qxb6001758a

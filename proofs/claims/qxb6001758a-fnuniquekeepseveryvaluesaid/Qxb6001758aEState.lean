/- The state behind (*fieldNames).earlier: the box of rule and map, what the map holds. -/
import Derived.Test.Qxb6001758aKey
import Derived.Maps.OwnSet
namespace Go.Proofs.Qxb6001758a
open Go.RowKit
open Go.Maps
set_option linter.unusedVariables false

theorem klaw : Keyed Try.prog 9 := string_keyed Try.underlying9

/-- D holds, for each of the first n names, its key with its index, and nothing else. -/
def MapIs (d : Bool) (D : DataW Unit) (n : Nat) (N : Nat → ByteArray) : Prop :=
  (∀ i, i < n → Maps.has D (.string (keyL d (N i))) = true ∧ D.atKey (.string (keyL d (N i))) (.lit (.int .i64 0)) = .lit (.int .i64 (i : Int))) ∧
  (∀ l, Maps.has D (.string l) = true → ∃ i, i < n ∧ keyL d (N i) = l)

theorem MapIs.empty (d : Bool) (N : Nat → ByteArray) : MapIs d (.map []) 0 N := ⟨fun i hi => by omega, fun l hl => by simp [Maps.has_eq] at hl⟩

theorem MapIs.put {d : Bool} {D : DataW Unit} {n : Nat} {N N' : Nat → ByteArray} {s : ByteArray} (h : MapIs d D n N) (hM : IsMap D) (he : ∀ i, i < n → N' i = N i) (hs : N' n = s) (hnew : ∀ i, i < n → sameB d (N i) s = false) :
    MapIs d (D.put (.string (keyL d s)) (.lit (.int .i64 (n : Int)))) (n + 1) N' := by
  have hne : ∀ i, i < n → keyL d (N i) ≠ keyL d s := fun i hi e => by
    have := (keyL_same d (N i) s).2 e
    rw [hnew i hi] at this
    cases this
  refine ⟨fun i hi => ?_, fun l hl => ?_⟩
  · by_cases e : i = n
    · subst e
      rw [hs]
      exact ⟨has_put_same hM (k := .string (keyL d s)) trivial _, atKey_put_same hM (k := .string (keyL d s)) trivial _ _⟩
    · have hi' : i < n := by omega
      have hn' : Lit.string (keyL d (N i)) ≠ Lit.string (keyL d s) := fun e => hne i hi' (by injection e)
      rw [he i hi', has_put_other hn', atKey_put_other hn']
      exact h.1 i hi'
  · by_cases e : l = keyL d s
    · exact ⟨n, by omega, by rw [hs, e]⟩
    · rw [has_put_other (fun e' => e (by injection e'))] at hl
      obtain ⟨i, hi, hk⟩ := h.2 l hl
      exact ⟨i, by omega, by rw [he i hi, hk]⟩

theorem MapIs.found {d : Bool} {D : DataW Unit} {n : Nat} {N : Nat → ByteArray} {s : ByteArray} {c : Int} (h : MapIs d D n N) (hpw : ∀ i j, i < j → j < n → sameB d (N i) (N j) = false) (hh : Maps.has D (.string (keyL d s)) = true) (hat : D.atKey (.string (keyL d s)) (.lit (.int .i64 0)) = .lit (.int .i64 c)) :
    Found (fun j => sameB d (N j) s) n c := by
  obtain ⟨i, hi, hk⟩ := h.2 _ hh
  have h1 := (h.1 i hi).2
  rw [hk, hat] at h1
  have hc : c = (i : Int) := by simpa using h1
  have hsame : sameB d (N i) s = true := (keyL_same d _ _).2 hk
  refine .inr ⟨i, hc, hi, hsame, fun j hj => ?_⟩
  have := hpw j i hj hi
  show sameB d (N j) s = false
  cases hb : sameB d (N j) s with
  | false => rfl
  | true =>
    have e1 := (keyL_same d _ _).1 hb
    rw [(keyL_same d (N j) (N i)).2 (e1.trans hk.symm)] at this
    cases this

theorem MapIs.missing {d : Bool} {D : DataW Unit} {n : Nat} {N : Nat → ByteArray} {s : ByteArray} (h : MapIs d D n N) (hh : Maps.has D (.string (keyL d s)) = false) : ∀ j, j < n → sameB d (N j) s = false := by
  intro j hj
  cases hb : sameB d (N j) s with
  | false => rfl
  | true =>
    have := (h.1 j hj).1
    rw [(keyL_same d _ _).1 hb, hh] at this
    cases this

/-- The box at block nb: the rule, and the map r; where there is a map it holds the n names. -/
def EState (d : Bool) (w : World) (nb : Nat) (n : Nat) (N : Nat → ByteArray) (r : Option Nat) : Prop :=
  w.heap[nb]? = some (.cells #[.int .u8 (rl d), .map r] 48 (0, 0)) ∧
  ∀ mb, r = some mb → 32 ≤ n ∧ nb < mb ∧ ∃ D : DataW Unit, w.ownsMap Try.prog 9 (plainElem Try.prog 3) mb n D ∧ MapIs d D n N

/-- All blocks but nb and the map r are as they were. -/
structure KeepsBut (nb : Nat) (r : Option Nat) (w w' : World) : Prop where
  os : w'.os = w.os
  tape : w'.tape = w.tape
  output : w'.output = w.output
  size : w.heap.size ≤ w'.heap.size
  block : ∀ k, k < w.heap.size → k ≠ nb → some k ≠ r → w'.heap[k]? = w.heap[k]?

theorem KeepsBut.ofBelow {nb : Nat} {r : Option Nat} {w w' : World} (h : Below w.heap.size w w') : KeepsBut nb r w w' := ⟨h.os, h.tape, h.output, h.size, fun k hk _ _ => h.block k hk⟩
theorem KeepsBut.trans {nb : Nat} {r r' : Option Nat} {w w' w'' : World} (h : KeepsBut nb r w w') (h' : KeepsBut nb r' w' w'') (hr : ∀ k, r' = some k → k < w.heap.size → r = some k) : KeepsBut nb r w w'' :=
  ⟨h'.os.trans h.os, h'.tape.trans h.tape, h'.output.trans h.output, Nat.le_trans h.size h'.size, fun k hk h1 h2 => (h'.block k (Nat.lt_of_lt_of_le hk h.size) h1 (fun e => h2 (hr k e.symm hk).symm)).trans (h.block k hk h1 h2)⟩

theorem KeepsBut.cell {nb : Nat} {r : Option Nat} {w w' : World} (h : KeepsBut nb r w w') {p : Addr} {v : Value} (hp : w.cell? p = some v) (h1 : p.block ≠ nb) (h2 : some p.block ≠ r) : w'.cell? p = some v :=
  (World.cell?_of_block (w := w) (h.block p.block (World.block_lt_of_cell? _ _ hp) h1 h2)).trans hp

theorem EState.below {d : Bool} {w w' : World} {nb n : Nat} {N : Nat → ByteArray} {r : Option Nat} (h : EState d w nb n N r) (hb : Below w.heap.size w w') : EState d w' nb n N r := by
  have hl : nb < w.heap.size := (Array.getElem?_eq_some_iff.1 h.1).1
  refine ⟨(hb.block nb hl).trans h.1, fun mb e => ?_⟩
  obtain ⟨h1, h2, D, hD, hM⟩ := h.2 mb e
  obtain ⟨es, clock, hm, F, hs, hD'⟩ := hD
  exact ⟨h1, h2, D, ⟨es, clock, (hb.block mb (Array.getElem?_eq_some_iff.1 hm).1).trans hm, F, hs, hD'⟩, hM⟩
end Go.Proofs.Qxb6001758a

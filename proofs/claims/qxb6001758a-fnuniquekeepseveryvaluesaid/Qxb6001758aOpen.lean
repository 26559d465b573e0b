/- Slices of strings and of bools among the arguments, opened. -/
import Derived.Test.Qxb6001758aMem
import Derived.ProofKit
import Derived.OpenShut
import Derived.ShutString
import Derived.ChangeOld
import Derived.SliceStrings
import Derived.Deep.Grids
namespace Go.Proofs.Qxb6001758a
open Go.ChangeShapes Go.WideShapes Go.ChangeAt Go.RowKit
open Go.ChangeMaps (open_string shut_string)
set_option linter.unusedVariables false

theorem own : ownKnob Try.prog.godebug = none := by kernel_rfl
theorem laidOut : laidOutB Try.prog = true := by kernel_rfl
theorem Try.cells9 : Try.prog.cellsOf 9 = 1 := by kernel_rfl
theorem Try.cells4 : Try.prog.cellsOf 4 = 1 := by kernel_rfl

theorem strs_open {H : Type} {enc : TypeId × Value → H} {W : World} {a : Option Addr} {n c : Nat} {x : DataW H} {p : List MemPlace}
    (h : DataW.Trod enc Try.prog W 0 (fun _ => true) true 22 (.slice a n c) x p) : ∃ S, Strs W a n S ∧ n ≤ maxLen := by
  obtain ⟨fuel, hf⟩ := h
  rcases open_strings Try.underlying22 Try.underlying9 Try.cells9 hf with ⟨hcs, _⟩ | ⟨ad, l, cp, ss, hcs, _, hl, hm, hz, _, hcell, hws⟩
  · simp [Value.cells] at hcs
    obtain ⟨rfl, rfl, rfl⟩ := hcs
    exact ⟨fun _ => ByteArray.empty, fun i hi => by omega, Nat.zero_le _⟩
  · simp [Value.cells] at hcs
    obtain ⟨rfl, rfl, rfl⟩ := hcs
    simp only [if_true] at hz
    refine ⟨fun i => ss.getD i ByteArray.empty, fun i hi => ?_, by omega⟩
    obtain ⟨b, off, spot⟩ := ad
    have hspot : spot = none := by simpa [Addr.add] using World.cell?_spot (hcell 0 (by omega))
    subst hspot
    have h0 := hcell i (by omega)
    rw [Addr.add_lit] at h0
    refine ⟨b, off, rfl, h0, hws _ ?_⟩
    simp [List.getD, show i < ss.length by omega]

theorem bls_open {H : Type} {enc : TypeId × Value → H} {W : World} {a : Option Addr} {n c : Nat} {x : DataW H} {p : List MemPlace}
    (h : DataW.Trod enc Try.prog W 0 (fun _ => true) true 36 (.slice a n c) x p) : ∃ R, Bls W a n R ∧ n ≤ maxLen := by
  obtain ⟨fuel, hf⟩ := h
  rcases Deep.open_bools Try.underlying36 Try.underlying4 Try.cells4 hf with ⟨hcs, _⟩ | ⟨ad, l, cp, B, hcs, _, hl, hm, _, hcell⟩
  · simp [Value.cells] at hcs
    obtain ⟨rfl, rfl, rfl⟩ := hcs
    exact ⟨fun _ => false, fun i hi => by omega, Nat.zero_le _⟩
  · simp [Value.cells] at hcs
    obtain ⟨rfl, rfl, rfl⟩ := hcs
    refine ⟨B, fun i hi => ?_, by omega⟩
    obtain ⟨b, off, spot⟩ := ad
    have hspot : spot = none := by simpa [Addr.add] using World.cell?_spot (hcell 0 (by omega))
    subst hspot
    have h0 := hcell i (by omega)
    rw [Addr.add_lit] at h0
    exact ⟨b, off, rfl, h0⟩
end Go.Proofs.Qxb6001758a

import Derived.Test.Qxb6616219aModsLeaves
import Derived.OpenShut
import Derived.ShutString
import Derived.Deep.Slices
import Derived.ChangeOld
import Derived.Carry
namespace Go.Proofs.Qxb6616219aMods
open Go.ChangeShapes Go.WideShapes Go.ChangeAt Go.RowKit Go.Deep

theorem own : ownKnob Trym.prog.godebug = none := by kernel_rfl
theorem laidOut : laidOutB Trym.prog = true := by kernel_rfl

/-- A slice of strings that came in, opened. -/
theorem open_strArr {H : Type} {enc : TypeId × Value → H} {W : World} {a : Option Addr} {len cap : Nat} {d : DataW H} {p : List MemPlace} (h : DataW.Trod enc Trym.prog W 0 (fun _ => true) true 22 (.slice a len cap) d p) :
    ∃ S, StrArr W a len S := by
  obtain ⟨fuel, hf⟩ := h
  rcases open_slice1 Trym.underlying22 (by kernel_rfl) hf with ⟨hcs, _⟩ | ⟨x, l, c, m, n, V, D, Pl, hcs, _, hl, hm, hmm, _, hcell⟩
  · simp [Value.cells] at hcs
    obtain ⟨rfl, rfl, rfl⟩ := hcs
    exact ⟨fun _ => ByteArray.empty, fun h0 => absurd h0 (Nat.not_lt_zero _), by unfold maxLen; omega, fun i hi => absurd hi (Nat.not_lt_zero _)⟩
  · simp [Value.cells] at hcs
    obtain ⟨rfl, rfl, rfl⟩ := hcs
    have hmc : m = cap := by simpa using hmm
    subst hmc
    obtain ⟨S, hS⟩ := choose_lt (α := ByteArray) (n := len) (p := fun i s => V i = .string s ∧ s.size ≤ maxLen) (fun i hi => by
      obtain ⟨s, e, _, hs⟩ := DataW.trod_string Trym.underlying9 (hcell i (by omega)).2
      simp at e
      exact ⟨s, e, hs⟩)
    refine ⟨S, fun h0 => ?_, Nat.le_trans hl hm, fun i hi => (hS i hi).2⟩
    obtain ⟨b, off, spot⟩ := x
    have hspot : spot = none := by simpa [Addr.add] using World.cell?_spot (hcell 0 (by omega)).1
    subst hspot
    refine ⟨b, off, rfl, ?_, fun i hi => ?_⟩
    · have := (hcell 0 (by omega)).1
      rw [add_plain] at this
      exact World.block_lt_of_cell? W _ this
    · have := (hcell i (by omega)).1
      rw [add_plain, (hS i hi).1] at this
      exact this
end Go.Proofs.Qxb6616219aMods

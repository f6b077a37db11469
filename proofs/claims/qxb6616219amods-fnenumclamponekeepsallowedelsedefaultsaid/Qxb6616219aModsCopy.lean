import Derived.Test.Qxb6616219aModsClamp
import Derived.Test.Qxb6616219aModsValid
import Derived.Test.Qxb6616219aModsBytes
import Derived.Laws.CopyOwn
import Derived.Deep.OwnRows
import Derived.Deep.DeepCutAuto
namespace Go.Proofs.Qxb6616219aMods
open Go.ChangeShapes Go.WideShapes Go.ChangeAt Go.RowKit

theorem info9 : (Trym.prog.info? 9).map (fun i => (i.zero, i.size, i.bytes)) = some (some (.string ⟨#[]⟩), 1, 16) := by kernel_rfl
theorem size9 : (Trym.prog.info? 9).map (·.size) = some 1 := by kernel_rfl
/-- make([]string, n) -/
theorem make9 (n : Nat) (h : n ≤ 65536) : ∃ cz : List Value, cz.length = n ∧ ∀ W : World, (Instr.makeSlice 22 (.int .i64 (n : Int)) (.int .i64 (n : Int))).run Trym.prog W = .ok (.slice (some ⟨W.heap.size, 0, none⟩) n n) (W.alloc (.cells cz.toArray 9)) := by
  refine ⟨(madeCells #[.string ⟨#[]⟩] n).toList, by simp [madeCells], fun W => ?_⟩
  have := run_make_row' (P := Trym.prog) 22 9 (.string ⟨#[]⟩) 16 Trym.underlying22 info9 rfl .i64 .i64 n (by omega) (by omega) W
  simpa using this

/-- The cells of a slice of strings. -/
def strCells (S : Nat → ByteArray) (n : Nat) : List Value := (List.range n).map fun i => .string (S i)
theorem length_strCells (S : Nat → ByteArray) (n : Nat) : (strCells S n).length = n := by simp [strCells]
theorem strCells_at {S : Nat → ByteArray} {n i : Nat} (h : i < n) : (strCells S n)[i]? = some (.string (S i)) := by simp [strCells, h]
theorem strCells_one (S : Nat → ByteArray) (n : Nat) : ∀ v ∈ strCells S n, v.oneCell' = true := fun v hv => by
  obtain ⟨i, _, rfl⟩ := List.mem_map.1 hv
  rfl
theorem strCells_src {w : World} {a : Option Addr} {n : Nat} {S : Nat → ByteArray} (h : StrArr w a n S) (hpos : 0 < (strCells S n).length) :
    ∃ ad, a = some ad ∧ ∀ j v, (strCells S n)[j]? = some v → w.cell? (ad.add j) = some v := by
  rw [length_strCells] at hpos
  obtain ⟨b, off, rfl, _, hc⟩ := h.at' hpos
  refine ⟨_, rfl, fun j v hv => ?_⟩
  have hj : j < n := by
    have := (List.getElem?_eq_some_iff.1 hv).1
    rwa [length_strCells] at this
  rw [strCells_at hj] at hv
  simp only [Option.some.injEq] at hv
  subst hv
  rw [add_plain]
  exact hc j hj
theorem strArr_row {w : World} {g n : Nat} {cz : List Value} {S : Nat → ByteArray} (hz : cz.length = n) (h : w.heap[g]? = some (.cells (splice cz 0 (strCells S n)).toArray 9 (0, 0))) (hn : n ≤ maxLen) (hs : ∀ i, i < n → (S i).size ≤ maxLen) : StrArr w (some ⟨g, 0, none⟩) n S := by
  have e : splice cz 0 (strCells S n) = strCells S n := by
    unfold splice
    rw [List.take_zero, List.nil_append, length_strCells, Nat.zero_add, List.drop_eq_nil_of_le (by omega), List.append_nil]
  rw [e] at h
  have hg : g < w.heap.size := (Array.getElem?_eq_some_iff.1 h).1
  refine ⟨fun _ => ⟨g, 0, rfl, hg, fun i hi => ?_⟩, hn, hs⟩
  simp only [World.cell?, h]
  simpa using strCells_at hi

end Go.Proofs.Qxb6616219aMods

import Derived.Test.Qxb6616736aModsCopy
import Derived.OpenShut
import Derived.ShutString
import Derived.Deep.Slices
import Derived.ChangeOld
import Derived.Carry
namespace Go.Proofs.Qxb6616736aMods
open Go.ChangeShapes Go.WideShapes Go.ChangeAt Go.RowKit Go.Deep

theorem own : ownKnob Trym.prog.godebug = none := by kernel_rfl
theorem laidOut : laidOutB Trym.prog = true := by kernel_rfl

/-- A slice of one-cell elements that came in. -/
structure Came (W : World) (a : Option Addr) (len cap : Nat) (V : Nat → Value) : Prop where
  arr : CellArr W a len V
  nil : NilOk a len cap
  le : len ≤ cap

theorem open_any {H : Type} {enc : TypeId × Value → H} {W : World} {t e : TypeId} (ht : Trym.prog.underlying t = some (.slice e)) (hc : Trym.prog.cellsOf e = 1) {α : Type} [Inhabited α] (f : α → Value) (z : α)
    (hel : ∀ (n : Nat) (v : Value) (x : DataW H × List MemPlace), DataW.trod enc Trym.prog W 0 (fun _ => true) true n e [v] = some x → ∃ q, v = f q)
    {a : Option Addr} {len cap : Nat} {d : DataW H} {p : List MemPlace} (h : DataW.Trod enc Trym.prog W 0 (fun _ => true) true t (.slice a len cap) d p) :
    ∃ S : Nat → α, Came W a len cap (fun i => f (S i)) := by
  obtain ⟨fuel, hf⟩ := h
  rcases open_slice1 ht hc hf with ⟨hcs, _⟩ | ⟨x, l, c, m, n, V, D, Pl, hcs, _, hl, hm, hmm, _, hcell⟩
  · simp [Value.cells] at hcs
    obtain ⟨rfl, rfl, rfl⟩ := hcs
    exact ⟨fun _ => z, ⟨fun h0 => absurd h0 (Nat.not_lt_zero _), by unfold maxLen; omega⟩, fun _ => ⟨rfl, rfl⟩, Nat.le_refl _⟩
  · simp [Value.cells] at hcs
    obtain ⟨rfl, rfl, rfl⟩ := hcs
    have hmc : m = cap := by simpa using hmm
    subst hmc
    obtain ⟨S, hS⟩ := choose_lt (α := α) (n := len) (p := fun i s => V i = f s) (fun i hi => hel _ _ _ (hcell i (by omega)).2)
    refine ⟨S, ⟨fun h0 => ?_, Nat.le_trans hl hm⟩, fun h => (by cases h), hl⟩
    obtain ⟨b, off, spot⟩ := x
    have hspot : spot = none := by simpa [Addr.add] using World.cell?_spot (hcell 0 (by omega)).1
    subst hspot
    refine ⟨b, off, rfl, ?_, fun i hi => ?_⟩
    · have := (hcell 0 (by omega)).1
      rw [add_plain] at this
      exact World.block_lt_of_cell? W _ this
    · have := (hcell i (by omega)).1
      rw [add_plain, hS i hi] at this
      exact this

section
variable {H : Type} {enc : TypeId × Value → H} {W : World} {a : Option Addr} {len cap : Nat} {d : DataW H} {p : List MemPlace}
theorem open_texts (h : DataW.Trod enc Trym.prog W 0 (fun _ => true) true 22 (.slice a len cap) d p) : ∃ S : Nat → ByteArray, Came W a len cap (fun i => .string (S i)) :=
  open_any Trym.underlying22 (by kernel_rfl) (fun s => Value.string s) ByteArray.empty (fun n v x h => by
    obtain ⟨s, e, _, _⟩ := DataW.trod_string Trym.underlying9 h
    simp at e
    exact ⟨s, e⟩) h
theorem open_ints (h : DataW.Trod enc Trym.prog W 0 (fun _ => true) true 24 (.slice a len cap) d p) : ∃ N : Nat → Int, Came W a len cap (fun i => .int .i64 (N i)) :=
  open_any Trym.underlying24 (by kernel_rfl) (fun s => Value.int .i64 s) 0 (fun n v x h => by
    obtain ⟨s, e, _, _⟩ := DataW.trod_int Trym.underlying2 h
    simp at e
    exact ⟨s, e⟩) h
theorem open_blobs (h : DataW.Trod enc Trym.prog W 0 (fun _ => true) true 23 (.slice a len cap) d p) : ∃ (A : Nat → Option Addr) (L C : Nat → Nat), Came W a len cap (fun i => .slice (A i) (L i) (C i)) := by
  obtain ⟨S, hS⟩ := open_any Trym.underlying23 (by kernel_rfl) (fun q : Option Addr × Nat × Nat => Value.slice q.1 q.2.1 q.2.2) (none, 0, 0) (fun n v x h => by
    rcases DataW.trod_slice Trym.underlying31 h with ⟨e, _⟩ | ⟨a, l, c, _, _, _, _, e, _⟩
    · simp at e
      exact ⟨(none, 0, 0), e⟩
    · simp at e
      exact ⟨(some a, l, c), e⟩) h
  exact ⟨fun i => (S i).1, fun i => (S i).2.1, fun i => (S i).2.2, hS⟩
theorem open_len (h : DataW.Trod enc Trym.prog W 0 (fun _ => true) true 31 (.slice a len cap) d p) : len ≤ maxLen := by
  obtain ⟨fuel, hf⟩ := h
  rcases DataW.trod_slice Trym.underlying31 hf with ⟨e, _⟩ | ⟨x, l, c, _, _, _, _, e, _, _, hl, hm, _⟩
  · simp [Value.cells] at e
    rw [e.2.1]
    exact Nat.zero_le _
  · simp [Value.cells] at e
    rw [e.2.1]
    omega
end
end Go.Proofs.Qxb6616736aMods

import Derived.Test.Qxb6616736aModsSize
import Derived.Maps.AppendAt
namespace Go.Proofs.Qxb6616736aMods
open Go.ChangeShapes Go.WideShapes Go.ChangeAt Go.RowKit

/-- The first m values. -/
def pre (V : Nat → Value) (m : Nat) : List Value := (List.range m).map V
theorem pre_succ (V : Nat → Value) (m : Nat) : pre V (m + 1) = pre V m ++ [V m] := by simp [pre, List.range_succ]
theorem pre_at {V : Nat → Value} {m i : Nat} (h : i < m) : (pre V m)[i]? = some (V i) := by simp [pre, h]

theorem info20 : (Trym.prog.info? 20).map (fun i => (i.zero, i.size, i.bytes)) = some (some .nilIface, 1, 16) := by kernel_rfl
/-- make([]any, 0, c) -/
theorem make20 (C : Int) (n : Nat) (hC : C = (n : Int)) (h : n ≤ 1048576) : ∃ cz : Array Value, cz.size = n ∧ ∀ W : World, (Instr.makeSlice 33 (.int .i64 0) (.int .i64 C)).run Trym.prog W = .ok (.slice (some ⟨W.heap.size, 0, none⟩) 0 n) (W.alloc (.cells cz 20)) := by
  obtain ⟨i, hi, hz0, hz1, hz2⟩ := info_parts info20
  refine ⟨madeCells (Value.nilIface).cells (n * 1), by simp [size_madeCells], fun W => ?_⟩
  have hr := run_make (P := Trym.prog) W 33 20 i .nilIface Trym.underlying33 hi hz0 .i64 .i64 0 C (by omega) (by omega) (by rw [hz2]; omega) (by omega)
  rw [hz1, hC] at hr
  rw [hC]
  simpa using hr

theorem ownsRow_new (w : World) (cz : Array Value) (n : Nat) (h : cz.size = n) (hn : n ≤ maxLen) : (w.alloc (.cells cz 20)).ownsRow w.heap.size 20 1 (.slice (some ⟨w.heap.size, 0, none⟩) 0 n) 0 [] :=
  World.ownsRow_made w cz n (Nat.le_refl _) hn (by rw [h, Nat.mul_one])

theorem ownsRow_cells {w : World} {B g m c : Nat} {V : Nat → Value} (h : w.ownsRow B 20 1 (.slice (some ⟨g, 0, none⟩) m c) m (pre V m)) (hm : m ≤ maxLen) : CellArr w (some ⟨g, 0, none⟩) m V :=
  ⟨fun h0 => ⟨g, 0, rfl, (h.lt g rfl).2, fun i hi => by
    rw [Nat.zero_add, h.cellAt i (by omega), pre_at hi]⟩, hm⟩

/-- What ZZnewRow leaves. -/
def RowPost (w : World) (n : Nat) (V : Nat → Value) (e : Ending) (w' : World) : Prop := ∃ R, e = .returned (.pointer (some ⟨R, 0, none⟩)) ∧ RowAt w' R n V ∧ Below w.heap.size w w'

theorem one_cell (v : Value) (h : v.oneCell' = true) : ∀ u ∈ [v], u.oneCell' = true := fun u hu => by simp at hu; subst hu; exact h

theorem cellAt_new (w : World) (a b : Value) : (w.alloc (.cells #[a, b] 35)).cell? ⟨w.heap.size, 1, none⟩ = some b := by simp
/-- One value more. -/
theorem row_step {w wr w1 : World} {V : Nat → Value} {m c : Nat} {v : Value} {o : Obj} (hv : V m = v) (hnx : Below w.heap.size w wr)
    (hown1 : w1.ownsRow w.heap.size 20 1 (.slice (some ⟨w.heap.size, 0, none⟩) (m + 1) c) (m + 1) (pre V m ++ [v])) (hg : (wr.alloc o).grownBy w1 (some w.heap.size)) :
    w1.ownsRow w.heap.size 20 1 (.slice (some ⟨w.heap.size, 0, none⟩) (m + 1) c) (m + 1) (pre V (m + 1)) ∧ Below w.heap.size w w1 := by
  refine ⟨by rw [pre_succ, hv]; exact hown1, ?_⟩
  exact (hnx.alloc hnx.size _).grown hg (Nat.le_trans hnx.size (by simp)) (fun j hj => by cases hj; exact Nat.le_refl _)

set_option maxHeartbeats 2000000 in
set_option maxRecDepth 100000 in
theorem newRow_any (ca : Option Addr) (cl cc : Nat) (ta : Option Addr) (tl tc : Nat) (S : Nat → ByteArray) (ba : Option Addr) (bl bc : Nat) (A : Nat → Option Addr) (L C : Nat → Nat) (ia : Option Addr) (il ic : Nat) (N : Nat → Int) (z : Int) (zn : Nat) (hz : z = (zn : Int)) (w : World)
    (hT : CellArr w ta tl (fun i => .string (S i))) (hB : CellArr w ba bl (fun i => .slice (A i) (L i) (C i))) (hI : CellArr w ia il (fun i => .int .i64 (N i))) (hbd : tl + bl + il + zn ≤ 1048576) :
    Calls Trym.prog 7 #[.slice ca cl cc, .slice ta tl tc, .slice ba bl bc, .slice ia il ic, .int .i64 z] w fun e w' => RowPost w (tl + bl + il + zn) (rowV tl bl il S A L C N) e w' := by
  obtain ⟨cz, hcz, hmk⟩ := make20 ((tl : Int) + bl + il + z) (tl + bl + il + zn) (by omega) hbd
  obtain ⟨i0, hi, hz0, hz1, hz2⟩ := info_parts info20
  have HZ : Hid (z = (zn : Int)) := hz
  have z0 : 0 ≤ z := by omega
  have z1 : z ≤ 1048576 := by omega
  have HN : Hid (cz.size = tl + bl + il + zn) := hcz
  have hown0 := ownsRow_new w cz _ hcz (by unfold maxLen; omega)
  have hal : Below w.heap.size w (w.alloc (.cells cz 20)) := (Below.refl _ _).alloc (Nat.le_refl _) _
  clear hz hcz
  go_enter Trym.func7, Trym.ntmps7
  go_wp2
  go_loopw [11, 32] (fun v i wr => ∃ k : Nat, k ≤ tl ∧ i = .int .i64 k ∧ v = .slice (some ⟨w.heap.size, 0, none⟩) k (tl + bl + il + zn) ∧ wr.ownsRow w.heap.size 20 1 (.slice (some ⟨w.heap.size, 0, none⟩) k (tl + bl + il + zn)) k (pre (rowV tl bl il S A L C N) k) ∧ Below w.heap.size w wr) (fun _ i _ => tl - (intOf i).toNat)
  case atStart => exact ⟨0, Nat.zero_le _, rfl, rfl, hown0, hal⟩
  case round =>
    obtain ⟨k, hk, rfl, rfl, hown, hnx⟩ := hrel
    by_cases hlt : k < tl
    · obtain ⟨b, off, rfl, hbl, hc0⟩ := (hT.below hnx (Nat.le_refl _)).at' (by omega)
      have g0 := hc0 k hlt
      clear hc0
      go_wp2_with (at_builtin; refine wpList_append_fits _ rfl (.tmp 36) (.tmp 39) 33 rfl w.heap.size 20 i0 1 Trym.underlying33 hi hz1 w.heap.size k (tl + bl + il + zn) _ rfl (hown.alloc _) ⟨wr.heap.size, 0, none⟩ 1 1 [.iface 9 (.string (S k))] rfl rfl (cell_one_new _ _ _) (one_cell _ rfl) (by omega) ?_; intro w1 hown1 hgrow1)
      obtain ⟨r1, r2⟩ := row_step (rowV_text hlt) hnx hown1 hgrow1
      go_roundw
      case rel => exact ⟨k + 1, by omega, by go_num, rfl, r1, r2⟩
      case measure => simp [intOf]; omega
    · have hkE : tl = k := by omega
      subst hkE
      obtain ⟨wE, rfl⟩ : ∃ wE : World, wE = wr := ⟨_, rfl⟩
      have hownE := hown
      have hnxE := hnx
      clear hown hnx
      go_wp2
      go_loopw [11, 44] (fun v i wr => ∃ k : Nat, k ≤ bl ∧ i = .int .i64 k ∧ v = .slice (some ⟨w.heap.size, 0, none⟩) (tl + k) (tl + bl + il + zn) ∧ wr.ownsRow w.heap.size 20 1 (.slice (some ⟨w.heap.size, 0, none⟩) (tl + k) (tl + bl + il + zn)) (tl + k) (pre (rowV tl bl il S A L C N) (tl + k)) ∧ Below w.heap.size w wr) (fun _ i _ => bl - (intOf i).toNat)
      case atStart => exact ⟨0, Nat.zero_le _, rfl, rfl, hownE, hnxE⟩
      case round =>
        obtain ⟨k, hk, rfl, rfl, hown, hnx⟩ := hrel
        by_cases hlt : k < bl
        · obtain ⟨b, off, rfl, hbl, hc0⟩ := (hB.below hnx (Nat.le_refl _)).at' (by omega)
          have g0 := hc0 k hlt
          clear hc0
          go_wp2_with (at_builtin; refine wpList_append_fits _ rfl (.tmp 48) (.tmp 51) 33 rfl w.heap.size 20 i0 1 Trym.underlying33 hi hz1 w.heap.size (tl + k) (tl + bl + il + zn) _ rfl (hown.alloc _) ⟨wr.heap.size, 0, none⟩ 1 1 [.iface 31 (.slice (A k) (L k) (C k))] rfl rfl (cell_one_new _ _ _) (one_cell _ rfl) (by omega) ?_; intro w1 hown1 hgrow1)
          obtain ⟨r1, r2⟩ := row_step (rowV_blob hlt) hnx hown1 hgrow1
          go_roundw
          case rel => exact ⟨k + 1, by omega, by go_num, rfl, r1, r2⟩
          case measure => simp [intOf]; omega
        · have hkE : bl = k := by omega
          subst hkE
          obtain ⟨wE, rfl⟩ : ∃ wE : World, wE = wr := ⟨_, rfl⟩
          have hownE := hown
          have hnxE := hnx
          clear hown hnx
          go_wp2
          go_loopw [11, 56] (fun v i wr => ∃ k : Nat, k ≤ il ∧ i = .int .i64 k ∧ v = .slice (some ⟨w.heap.size, 0, none⟩) (tl + bl + k) (tl + bl + il + zn) ∧ wr.ownsRow w.heap.size 20 1 (.slice (some ⟨w.heap.size, 0, none⟩) (tl + bl + k) (tl + bl + il + zn)) (tl + bl + k) (pre (rowV tl bl il S A L C N) (tl + bl + k)) ∧ Below w.heap.size w wr) (fun _ i _ => il - (intOf i).toNat)
          case atStart => exact ⟨0, Nat.zero_le _, rfl, rfl, hownE, hnxE⟩
          case round =>
            obtain ⟨k, hk, rfl, rfl, hown, hnx⟩ := hrel
            by_cases hlt : k < il
            · obtain ⟨b, off, rfl, hbl, hc0⟩ := (hI.below hnx (Nat.le_refl _)).at' (by omega)
              have g0 := hc0 k hlt
              clear hc0
              go_wp2_with (at_builtin; refine wpList_append_fits _ rfl (.tmp 60) (.tmp 63) 33 rfl w.heap.size 20 i0 1 Trym.underlying33 hi hz1 w.heap.size (tl + bl + k) (tl + bl + il + zn) _ rfl (hown.alloc _) ⟨wr.heap.size, 0, none⟩ 1 1 [.iface 2 (.int .i64 (N k))] rfl rfl (cell_one_new _ _ _) (one_cell _ rfl) (by omega) ?_; intro w1 hown1 hgrow1)
              obtain ⟨r1, r2⟩ := row_step (rowV_int hlt) hnx hown1 hgrow1
              go_roundw
              case rel => exact ⟨k + 1, by omega, by go_num, rfl, r1, r2⟩
              case measure => simp [intOf]; omega
            · have hkE : il = k := by omega
              subst hkE
              obtain ⟨wE, rfl⟩ : ∃ wE : World, wE = wr := ⟨_, rfl⟩
              have hownE := hown
              have hnxE := hnx
              clear hown hnx
              go_wp2
              go_loopw [11, 18] (fun v i wr => ∃ k : Nat, k ≤ zn ∧ i = .int .i64 k ∧ v = .slice (some ⟨w.heap.size, 0, none⟩) (tl + bl + il + k) (tl + bl + il + zn) ∧ wr.ownsRow w.heap.size 20 1 (.slice (some ⟨w.heap.size, 0, none⟩) (tl + bl + il + k) (tl + bl + il + zn)) (tl + bl + il + k) (pre (rowV tl bl il S A L C N) (tl + bl + il + k)) ∧ Below w.heap.size w wr) (fun _ i _ => zn - (intOf i).toNat)
              case atStart => exact ⟨0, Nat.zero_le _, rfl, rfl, hownE, hnxE⟩
              case round =>
                obtain ⟨k, hk, rfl, rfl, hown, hnx⟩ := hrel
                by_cases hlt : k < zn
                · have hltz : (k : Int) < z := by have := HZ.out; omega
                  go_wp2_with (at_builtin; refine wpList_append_fits _ rfl (.tmp 71) (.tmp 72) 33 rfl w.heap.size 20 i0 1 Trym.underlying33 hi hz1 w.heap.size (tl + bl + il + k) (tl + bl + il + zn) _ rfl (hown.alloc _) ⟨wr.heap.size, 0, none⟩ 1 1 [.nilIface] rfl rfl (cell_one_new _ _ _) (one_cell _ rfl) (by omega) ?_; intro w1 hown1 hgrow1)
                  obtain ⟨r1, r2⟩ := row_step (rowV_null k) hnx hown1 hgrow1
                  go_roundw
                  case rel => exact ⟨k + 1, by omega, by go_num, rfl, r1, r2⟩
                  case measure => simp [intOf]; omega
                · have hkE : zn = k := by omega
                  have hltz : ¬ (k : Int) < z := by have := HZ.out; omega
                  subst hkE
                  go_wp2
                  go_ret
                  have hA1 := ownsRow_cells hown (by unfold maxLen; omega)
                  have hbE : Below wr.heap.size wr (wr.alloc (.cells #[.slice ca cl cc, .slice (some ⟨w.heap.size, 0, none⟩) (tl + bl + il + zn) (tl + bl + il + zn)] 35)) := (Below.refl _ _).alloc (Nat.le_refl _) _
                  have hcell := cellAt_new wr (.slice ca cl cc) (.slice (some ⟨w.heap.size, 0, none⟩) (tl + bl + il + zn) (tl + bl + il + zn))
                  exact ⟨wr.heap.size, rfl, ⟨⟨some ⟨w.heap.size, 0, none⟩, tl + bl + il + zn, hcell, hA1.below hbE (Nat.le_refl _)⟩, fun i _ => rowV_isVal i⟩, hnx.trans (hbE.mono hnx.size)⟩
end Go.Proofs.Qxb6616736aMods

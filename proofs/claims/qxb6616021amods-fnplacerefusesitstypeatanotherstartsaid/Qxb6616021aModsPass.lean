import Derived.Test.Qxb6616021aModsParts
import Derived.Deep.RegionHeld3
namespace Go.Proofs.Qxb6616021aMods
open Go.ChangeShapes Go.WideShapes Go.ChangeAt Go.RowKit Go.Maps Go.WideMaps

set_option maxHeartbeats 1000000 in
set_option maxRecDepth 100000 in
theorem passInputs_any (a : Option Addr) (len cap : Nat) (S : Nat → ByteArray) (N : Nat → Int) (w : World) (h : TaskArr w a len S N) (hm : len ≤ 65536) :
    Calls Trym.prog 15 #[.slice a len cap] w fun e w' => PassPost w len S N e w' := by
  have hmm := @run_makeMap Trym.prog
  obtain ⟨cz, hcz, hmk⟩ := make56 len hm
  have HCZ : Hid (cz.size = len * 21) := hcz
  clear hcz
  go_enter Trym.func15, Trym.ntmps15
  go_wp2
  go_loopw [7] (fun i wr => ∃ (k : Nat) (V : Nat → Value), k ≤ len ∧ i = .int .i64 k ∧ wr.ownsMap Trym.prog 9 (plainElem Trym.prog 3) w.heap.size k (placesTo S k) ∧ wr.rowIs (w.heap.size + 1) 56 (len * 21) V ∧ Starts V N k ∧ Apart S k ∧ Below w.heap.size w wr)
    (fun i _ => len - (intOf i).toNat)
  case atStart => exact ⟨0, _, Nat.zero_le _, rfl, (World.ownsMap_made _ _ _ _).alloc _, by have := rowIs_new (w.alloc (.map #[] 0)) cz _ HCZ.out 56; simpa using this, fun i hi => absurd hi (Nat.not_lt_zero _), fun i j _ hi => absurd hi (Nat.not_lt_zero _), ((Below.refl _ _).alloc (Nat.le_refl _) _).alloc (by simp) _⟩
  case round =>
    obtain ⟨k, V, hk, rfl, hown, hrow, hst, hap, hnx⟩ := hrel
    by_cases hlt : k < len
    · obtain ⟨b, off, rfl, hbl, hc0, hc1⟩ := h.at' (by omega)
      have g0 : wr.cell? ⟨b, off + k * 2, none⟩ = some (.string (S k)) := (hnx.cell (by exact hbl)).trans (hc0 k hlt)
      have g1 : wr.cell? ⟨b, off + k * 2 + 1, none⟩ = some (.int .i64 (N k)) := (hnx.cell (by exact hbl)).trans (hc1 k hlt)
      have hkey : keyOf Trym.prog 9 (.string (S k)) = some (keyL (S k)) := keyOf_string_mk Trym.underlying9 (h.sizes k hlt)
      cases hh : Maps.has (placesTo S k) (keyL (S k)) with
      | true =>
        clear hc0 hc1
        go_wp2_with (at_lookup; refine wpList_lookup_own_ok_int _ rfl _ _ 36 rfl 9 3 .i64 law9 Trym.underlying36 Trym.underlying3 (zero3 _) w.heap.size k _ rfl hown _ _ rfl hkey ?_; intro c hat hwc)
        go_ret3
        exact ⟨hnx, Or.inl rfl⟩
      | false =>
        clear hc0 hc1
        go_wp2_with (first
          | (at_lookup; refine wpList_lookup_own_ok_int _ rfl _ _ 36 rfl 9 3 .i64 law9 Trym.underlying36 Trym.underlying3 (zero3 _) w.heap.size k _ rfl hown _ _ rfl hkey ?_; intro c hat hwc)
          | (at_mapUpdate; refine wpList_mapUpdate_own _ rfl _ _ _ 36 rfl 9 3 law9 Trym.underlying36 _ w.heap.size k _ rfl hown (by unfold maxLen; omega) _ _ _ rfl rfl hkey _ [] (plainElem_int Trym.underlying3 (WalkArith.wf_i64 (by omega))) ?_; intro w1 hown1 hgrow1))
        have hlo := h.lo k hlt
        have hhi := h.hi k hlt
        have hneb : b ≠ w.heap.size := by omega
        have hrow1 : w1.rowIs (w.heap.size + 1) 56 (len * 21) V := hrow.of_block (hgrow1.block _ (hrow.lt) (by simp))
        have k0 : w1.cell? ⟨b, off + k * 2, none⟩ = some (.string (S k)) := by rw [← g0]; exact World.cell?_of_block (w := wr) (hgrow1.block b (by have := hnx.size; omega) (by simpa using hneb))
        have k1 : w1.cell? ⟨b, off + k * 2 + 1, none⟩ = some (.int .i64 (N k)) := by rw [← g1]; exact World.cell?_of_block (w := wr) (hgrow1.block b (by have := hnx.size; omega) (by simpa using hneb))
        have hnx1 : Below w.heap.size w w1 := hnx.grown hgrow1 hnx.size (fun j hj => by cases hj; exact Nat.le_refl _)
        have hs1 : w.heap.size + 1 < w1.heap.size := hrow1.lt
        have hneb1 : b ≠ w.heap.size + 1 := by omega
        clear hgrow1 hrow hown g0 g1 hat hwc
        have hStR := stRow_eq
        go_region_held3 (fun w' => w'.cell? ⟨b, off + k * 2, none⟩ = some (.string (S k)) ∧ w'.cell? ⟨b, off + k * 2 + 1, none⟩ = some (.int .i64 (N k))) (first | (rw [World.cell?_setCells_far _ _ _ _ _ hneb1, World.cell?_setCells_far _ _ _ _ _ hneb1]; exact ⟨k0', k1'⟩) | exact ⟨k0', k1'⟩ | exact ⟨k0, k1⟩)
          ((go_at_call 18; refine (zzAt_any (N k) _ hlo hhi).mono ?_; rintro e w2 ⟨rfl, hb2⟩; have k0' : w2.cell? ⟨b, off + k * 2, none⟩ = some (.string (S k)) := (hb2.cell (p := ⟨b, off + k * 2, none⟩) (by simp; omega)).trans k0; have k1' : w2.cell? ⟨b, off + k * 2 + 1, none⟩ = some (.int .i64 (N k)) := (hb2.cell (p := ⟨b, off + k * 2 + 1, none⟩) (by simp; omega)).trans k1; have hrow2 : w2.rowIs (w.heap.size + 1) 56 (len * 21) V := hrow1.of_block (hb2.block _ (by simp; omega)); have hrun := run_stTask w2 (w.heap.size + 1) k (len * 21) V (S k) (tns (N k)) (tsec (N k)) hrow2 (by omega)))
        have hrow3 := rowIs_setCells (w.heap.size + 1) 56 (len * 21) (taskCells (S k) (tns (N k)) (tsec (N k))) (k * 21) w2 V hrow2
        have hst3 := starts_succ (S k) hst
        have hap3 := apart_succ hap hh
        have hz2 : w.heap.size < w1.drew.heap.size := by show w.heap.size < w1.heap.size; omega
        have hown2 := ownsMap_of_block hown1 (hb2.block w.heap.size hz2)
        have hown3 := ownsMap_of_block hown2 (heap_setCells (w.heap.size + 1) w.heap.size (by omega) (taskCells (S k) (tns (N k)) (tsec (N k))) (k * 21) w2)
        have hnx3 := below_setCells (w.heap.size + 1) (Nat.le_succ _) (taskCells (S k) (tns (N k)) (tsec (N k))) (k * 21) w2 (hnx1.drew.trans (hb2.mono (by show w.heap.size ≤ w1.heap.size; omega)))
        clear hrun hStR hown1 hown2 hrow1 hrow2 k0 k1 k0' k1' hb2
        go_wp2
        go_roundw
        case rel => exact ⟨k + 1, _, by omega, by go_num, hown3, hrow3, hst3, hap3, hnx3⟩
        case measure => simp [intOf]; omega
    · have hkl : k = len := by omega
      go_wp2
      go_ret3
      subst hkl
      exact ⟨hnx, Or.inr ⟨rfl, hown, ⟨V, hrow, hst⟩, hap⟩⟩
end Go.Proofs.Qxb6616021aMods

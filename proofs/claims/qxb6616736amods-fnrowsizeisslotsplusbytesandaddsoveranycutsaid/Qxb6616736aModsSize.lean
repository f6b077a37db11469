import Derived.Test.Qxb6616736aModsBase
namespace Go.Proofs.Qxb6616736aMods
open Go.ChangeShapes Go.WideShapes Go.ChangeAt Go.RowKit

/-- A Row that lies in block R: n values, by their place. -/
structure RowAt (w : World) (R n : Nat) (V : Nat → Value) : Prop where
  vals : ∃ x c, w.cell? ⟨R, 1, none⟩ = some (.slice x n c) ∧ CellArr w x n V
  isVal : ∀ i, i < n → IsVal (V i)
theorem RowAt.below {w w' : World} {R n : Nat} {V : Nat → Value} (h : RowAt w R n V) {B : Nat} (hb : Below B w w') (hB : w.heap.size ≤ B) : RowAt w' R n V := by
  obtain ⟨⟨x, c, h1, h2⟩, h3⟩ := h
  have hl := World.block_lt_of_cell? w _ h1
  exact ⟨⟨x, c, (hb.cell (p := ⟨R, 1, none⟩) (Nat.lt_of_lt_of_le hl hB)).trans h1, h2.below hb hB⟩, h3⟩

set_option maxHeartbeats 1000000 in
theorem size_nil (w : World) : Calls Trym.prog 8 #[.pointer none] w fun e w' => e = .returned (.int .i64 0) ∧ w' = w := by
  go_enter Trym.func8, Trym.ntmps8
  go_wp2
  go_ret
  exact ⟨rfl, rfl⟩

set_option maxHeartbeats 1000000 in
theorem size_any (R n : Nat) (V : Nat → Value) (w : World) (h : RowAt w R n V) (hn : n ≤ 1048576) (hs : sumN (fun i => vsz (V i)) n ≤ 4194304) :
    Calls Trym.prog 8 #[.pointer (some ⟨R, 0, none⟩)] w fun e w' => e = .returned (.int .i64 (16 * (n : Int) + (sumN (fun i => vsz (V i)) n : Nat))) ∧ w' = w := by
  obtain ⟨⟨x, c, hc, hA⟩, hV⟩ := h
  have HS : Hid (sumN (fun i => vsz (V i)) n ≤ 4194304) := hs
  clear hs
  go_enter Trym.func8, Trym.ntmps8
  go_wp2
  go_loop [3, 19] (fun z i => ∃ k : Nat, k ≤ n ∧ i = .int .i64 k ∧ z = .int .i64 (16 * (n : Int) + (sumN (fun i => vsz (V i)) k : Nat))) (fun _ i => n - (intOf i).toNat)
  case atStart => exact ⟨0, Nat.zero_le _, rfl, by rw [sumN_zero]; simp⟩
  case round =>
    obtain ⟨k, hk, rfl, rfl⟩ := hrel
    by_cases hlt : k < n
    · obtain ⟨b, off, rfl, hbl, hc0⟩ := hA.at' (by omega)
      have g0 := hc0 k hlt
      have hv := hV k hlt
      have m1 := sumN_mono (fun i => vsz (V i)) (show k + 1 ≤ n from hlt)
      have m2 := sumN_succ (fun i => vsz (V i)) k
      have m3 := HS.out
      have b1 : (sumN (fun i => vsz (V i)) k : Int) + (vsz (V k) : Int) ≤ 4194304 := by omega
      have b2 : (sumN (fun i => vsz (V i)) k : Int) ≤ 4194304 := by omega
      have HE : Hid ((16 * (n : Int) + (sumN (fun i => vsz (V i)) k : Nat)) + (vsz (V k) : Nat) = 16 * (n : Int) + (sumN (fun i => vsz (V i)) (k + 1) : Nat)) := by
        show _ = _
        rw [m2]; omega
      clear hc0 m1 m2 m3
      generalize hx : V k = vk at *
      go_wp2_with (go_at_call 11; refine (valueSize_any vk hv _).mono ?_; rintro e w' ⟨rfl, rfl⟩)
      go_round
      case rel => exact ⟨k + 1, by omega, by go_num, by rw [HE.out]⟩
      case measure => simp [intOf]; omega
    · have hkn : k = n := by omega
      subst hkn
      go_wp2
      go_ret
      exact ⟨rfl, rfl⟩
end Go.Proofs.Qxb6616736aMods

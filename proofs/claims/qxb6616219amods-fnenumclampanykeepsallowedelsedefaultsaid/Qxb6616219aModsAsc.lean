import Derived.Test.Qxb6616219aModsLeaves
namespace Go.Proofs.Qxb6616219aMods
open Go.ChangeShapes Go.WideShapes Go.ChangeAt Go.RowKit

theorem belowN {B : Nat} {a w : World} (n : Nat) (h : Below B a w) : Below B a (w.drewN n) := ⟨h.os, h.tape, h.output, h.size, h.block⟩

/-- zzAscending's answer: if it is yes, the strings ascend. -/
def AscPost (S : Nat → ByteArray) (len : Nat) (e : Ending) : Prop := ∃ B : Bool, e = .returned (.bool B) ∧ (B = true → Asc S len)

set_option maxHeartbeats 400000 in
theorem ascending_any (a : Option Addr) (len cap : Nat) (S : Nat → ByteArray) (w : World) (h : StrArr w a len S) :
    Calls Trym.prog 19 #[.slice a len cap] w fun e w' => AscPost S len e ∧ Below w.heap.size w w' := by
  have hm := h.small
  unfold maxLen at hm
  go_enter Trym.func19, Trym.ntmps19
  go_wp2
  go_loopw [3] (fun i wr => ∃ k q : Nat, (k = 0 ∨ k < len) ∧ i = .int .i64 ((k : Int) + 1) ∧ wr = w.drewN q ∧ Hid (∀ j, j < k → less (S j) (S (j + 1)) = true)) (fun i _ => len - (intOf i).toNat)
  case atStart => exact ⟨0, 0, Or.inl rfl, rfl, rfl, fun j hj => absurd hj (Nat.not_lt_zero _)⟩
  case round =>
    obtain ⟨k, q, hk, rfl, rfl, hall⟩ := hrel
    have hk2 : (k : Int) ≤ 9223372036854775806 := by omega
    by_cases hlt : k + 1 < len
    · obtain ⟨b, off, rfl, hbl, hc0⟩ := h.at' (by omega)
      have g0 := hc0 k (by omega)
      have g1 := hc0 (k + 1) (by omega)
      have hlt' : (k : Int) + 1 < (len : Int) := by omega
      have hlt2 : (k : Int) < (len : Int) := by omega
      clear hc0 hk
      cases he : Op.bytesLess (S k).toList (S (k + 1)).toList with
      | true =>
        go_wp2
        go_region
        go_wp2
        go_roundw
        case rel =>
          refine ⟨k + 1, q + 1, Or.inr (by omega), by go_num, rfl, fun j hj => ?_⟩
          rcases Nat.lt_succ_iff_lt_or_eq.1 hj with h' | rfl
          · exact hall.out j h'
          · exact he
        case measure => simp [intOf]; omega
      | false =>
        go_wp2
        go_region
        go_wp2
        go_ret
        exact ⟨⟨_, rfl, fun h => by cases h⟩, (belowN q (Below.refl _ _)).drew⟩
    · have hlt' : ¬ (k : Int) + 1 < (len : Int) := by omega
      go_wp2
      go_ret
      exact ⟨⟨_, rfl, fun _ i hi => hall.out i (by omega)⟩, belowN q (Below.refl _ _)⟩

set_option maxHeartbeats 400000 in
theorem same_any (a1 : Option Addr) (len c1 : Nat) (a2 : Option Addr) (c2 : Nat) (S : Nat → ByteArray) (w : World) (h1 : StrArr w a1 len S) (h2 : StrArr w a2 len S) :
    Calls Trym.prog 15 #[.slice a1 len c1, .slice a2 len c2] w fun e w' => e = .returned (.bool true) ∧ Below w.heap.size w w' := by
  have hm := h1.small
  unfold maxLen at hm
  go_enter Trym.func15, Trym.ntmps15
  go_wp2
  go_loopw [5] (fun i wr => ∃ k q : Nat, k ≤ len ∧ i = .int .i64 k ∧ wr = w.drewN q) (fun i _ => len - (intOf i).toNat)
  case atStart => exact ⟨0, 0, Nat.zero_le _, rfl, rfl⟩
  case round =>
    obtain ⟨k, q, hk, rfl, rfl⟩ := hrel
    by_cases hlt : k < len
    · obtain ⟨b, off, rfl, hbl, hc0⟩ := h1.at' (by omega)
      obtain ⟨b', off', rfl, hbl', hc0'⟩ := h2.at' (by omega)
      have g0 := hc0 k (by omega)
      have g1 := hc0' k (by omega)
      have hlt' : (k : Int) < (len : Int) := by omega
      clear hc0 hc0'
      go_wp2
      go_region
      go_wp2
      go_roundw
      case rel => exact ⟨k + 1, q + 1, by omega, by go_num, rfl⟩
      case measure => simp [intOf]; omega
    · go_wp2
      go_ret
      exact ⟨rfl, belowN q (Below.refl _ _)⟩
end Go.Proofs.Qxb6616219aMods

import Derived.Test.Qxb6616219aModsRows
import Derived.Test.Qxb6616219aModsPlain
import Derived.WalkKit
import Derived.ProofKit
import Derived.WalkSpells
import Derived.Deep.QuietTactic
import Derived.BigQuiet
namespace Go.Proofs.Qxb6616219aMods
open Go.ChangeShapes Go.WideShapes Go.ChangeAt Go.RowKit

/-- What is known of a slice of strings: string i is 'S i'. -/
structure StrArr (w : World) (a : Option Addr) (len : Nat) (S : Nat → ByteArray) : Prop where
  at' : 0 < len → ∃ b off, a = some ⟨b, off, none⟩ ∧ b < w.heap.size ∧ ∀ i, i < len → w.cell? ⟨b, off + i, none⟩ = some (.string (S i))
  small : len ≤ maxLen
  sizes : ∀ i, i < len → (S i).size ≤ maxLen
theorem StrArr.below {w w' : World} {a : Option Addr} {len : Nat} {S : Nat → ByteArray} (h : StrArr w a len S) {B : Nat} (hb : Below B w w') (hB : w.heap.size ≤ B) : StrArr w' a len S :=
  ⟨fun h0 => by
    obtain ⟨b, off, e, hl, h1⟩ := h.at' h0
    exact ⟨b, off, e, Nat.lt_of_lt_of_le hl hb.size, fun i hi => (hb.cell (p := ⟨b, off + i, none⟩) (by show b < B; omega)).trans (h1 i hi)⟩,
   h.small, h.sizes⟩

def RetBool (e : Ending) : Prop := ∃ B : Bool, e = .returned (.bool B)
theorem retBool (B : Bool) : RetBool (.returned (.bool B)) := ⟨B, rfl⟩
def RetNum (e : Ending) : Prop := ∃ t : Int, 0 ≤ t ∧ t ≤ 3000000 ∧ e = .returned (.int .i64 t)
theorem retNum {t : Int} (h0 : 0 ≤ t) (h1 : t ≤ 3000000) : RetNum (.returned (.int .i64 t)) := ⟨t, h0, h1, rfl⟩

set_option maxHeartbeats 400000 in
theorem addBytes_any (n : Int) (a : Option Addr) (len cap : Nat) (S : Nat → ByteArray) (w : World) (h : StrArr w a len S) (hn0 : 0 ≤ n) (hn1 : n ≤ 1048576) :
    Calls Trym.prog 8 #[.int .i64 n, .slice a len cap] w fun e w' => RetNum e ∧ w' = w := by
  have hm := h.small
  unfold maxLen at hm
  go_enter Trym.func8, Trym.ntmps8
  go_wp2
  go_loop [0, 5] (fun z i => ∃ k : Nat, ∃ zz : Int, k ≤ len ∧ i = .int .i64 k ∧ z = .int .i64 zz ∧ 0 ≤ zz ∧ zz ≤ 1048576) (fun _ i => len - (intOf i).toNat)
  case atStart => exact ⟨0, _, Nat.zero_le _, rfl, rfl, by omega, by omega⟩
  case round =>
    obtain ⟨k, zz, hk, rfl, rfl, hz0, hz1⟩ := hrel
    by_cases hlt : k < len
    · obtain ⟨b, off, rfl, hbl, hc0⟩ := h.at' (by omega)
      have g0 := hc0 k hlt
      clear hc0
      go_wp2
      · go_ret
        exact ⟨retNum (by omega) (by omega), rfl⟩
      · go_ret
        exact ⟨retNum (by omega) (by omega), rfl⟩
      · go_round
        case rel => exact ⟨k + 1, _, by omega, by go_num, rfl, by omega, by omega⟩
        case measure => simp [intOf]; omega
    · go_wp2
      go_ret
      exact ⟨retNum (by omega) (by omega), rfl⟩

set_option maxHeartbeats 400000 in
theorem has_any (a : Option Addr) (len cap : Nat) (S : Nat → ByteArray) (x : ByteArray) (w : World) (h : StrArr w a len S) :
    Calls Trym.prog 10 #[.slice a len cap, .string x] w fun e w' => e = .returned (.bool (hasB S len x)) ∧ w' = w := by
  have hm := h.small
  unfold maxLen at hm
  go_enter Trym.func10, Trym.ntmps10
  go_wp2
  go_loop [5] (fun i => ∃ k : Nat, k ≤ len ∧ i = .int .i64 k ∧ Hid (∀ j, j < k → S j ≠ x)) (fun i => len - (intOf i).toNat)
  case atStart => exact ⟨0, Nat.zero_le _, rfl, fun j hj => absurd hj (Nat.not_lt_zero _)⟩
  case round =>
    obtain ⟨k, hk, rfl, hno⟩ := hrel
    by_cases hlt : k < len
    · obtain ⟨b, off, rfl, hbl, hc0⟩ := h.at' (by omega)
      have g0 := hc0 k hlt
      clear hc0
      cases he : ((S k).toList == x.toList) with
      | true =>
        have hh : Hid (hasB S len x = true) := hasB_hit hlt (str_eq he)
        go_wp2
        go_ret
        exact ⟨by rw [hh.out]; rfl, rfl⟩
      | false =>
        go_wp2
        go_round
        case rel =>
          refine ⟨k + 1, by omega, by go_num, fun j hj => ?_⟩
          rcases Nat.lt_succ_iff_lt_or_eq.1 hj with h' | rfl
          · exact hno.out j h'
          · exact str_ne he
        case measure => simp [intOf]; omega
    · have hh : Hid (hasB S len x = false) := hasB_none (fun i hi => hno.out i (by omega))
      go_wp2
      go_ret
      exact ⟨by rw [hh.out]; rfl, rfl⟩

set_option maxHeartbeats 400000 in
theorem allIn_any (ma : Option Addr) (ml mc : Nat) (M : Nat → ByteArray) (a : Option Addr) (len cap : Nat) (S : Nat → ByteArray) (w : World) (hM : StrArr w ma ml M) (h : StrArr w a len S) :
    Calls Trym.prog 13 #[.slice ma ml mc, .slice a len cap] w fun e w' => e = .returned (.bool (allB M ml S len)) ∧ w' = w := by
  have hm := hM.small
  unfold maxLen at hm
  go_enter Trym.func13, Trym.ntmps13
  go_wp2
  go_loop [5] (fun i => ∃ k : Nat, k ≤ ml ∧ i = .int .i64 k ∧ Hid (∀ j, j < k → hasB S len (M j) = true)) (fun i => ml - (intOf i).toNat)
  case atStart => exact ⟨0, Nat.zero_le _, rfl, fun j hj => absurd hj (Nat.not_lt_zero _)⟩
  case round =>
    obtain ⟨k, hk, rfl, hall⟩ := hrel
    by_cases hlt : k < ml
    · obtain ⟨b, off, rfl, hbl, hc0⟩ := hM.at' (by omega)
      have g0 := hc0 k hlt
      clear hc0
      cases he : hasB S len (M k) with
      | false =>
        have hh : Hid (allB M ml S len = false) := allB_miss hlt he
        go_wp2_with (go_at_call 10; refine (has_any a len cap S (M k) _ h).mono ?_; rintro e w' ⟨rfl, rfl⟩)
        go_ret
        exact ⟨by rw [hh.out]; rfl, rfl⟩
      | true =>
        go_wp2_with (go_at_call 10; refine (has_any a len cap S (M k) _ h).mono ?_; rintro e w' ⟨rfl, rfl⟩)
        go_round
        case rel =>
          refine ⟨k + 1, by omega, by go_num, fun j hj => ?_⟩
          rcases Nat.lt_succ_iff_lt_or_eq.1 hj with h' | rfl
          · exact hall.out j h'
          · exact he
        case measure => simp [intOf]; omega
    · have hh : Hid (allB M ml S len = true) := allB_iff.2 (fun i hi => hall.out i (by omega))
      go_wp2
      go_ret
      exact ⟨by rw [hh.out]; rfl, rfl⟩
end Go.Proofs.Qxb6616219aMods

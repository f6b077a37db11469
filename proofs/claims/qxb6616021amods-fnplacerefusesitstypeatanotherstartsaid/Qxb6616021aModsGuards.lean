import Derived.Test.Qxb6616021aModsTime
namespace Go.Proofs.Qxb6616021aMods
open Go.ChangeShapes Go.WideShapes Go.ChangeAt Go.RowKit

/-- What is known of a slice of tasks as it came in: task i is the string 'S i' and the number 'N i'. -/
structure TaskArr (w : World) (a : Option Addr) (len : Nat) (S : Nat → ByteArray) (N : Nat → Int) : Prop where
  at' : 0 < len → ∃ b off, a = some ⟨b, off, none⟩ ∧ b < w.heap.size ∧ (∀ i, i < len → w.cell? ⟨b, off + i * 2, none⟩ = some (.string (S i))) ∧ (∀ i, i < len → w.cell? ⟨b, off + i * 2 + 1, none⟩ = some (.int .i64 (N i)))
  small : len ≤ maxLen
  sizes : ∀ i, i < len → (S i).size ≤ maxLen
  lo : ∀ i, i < len → -9223372036854775808 ≤ N i
  hi : ∀ i, i < len → N i ≤ 9223372036854775807

/-- It returned a bool. -/
def RetBool (e : Ending) : Prop := ∃ B : Bool, e = .returned (.bool B)
theorem retBool (B : Bool) : RetBool (.returned (.bool B)) := ⟨B, rfl⟩

set_option maxHeartbeats 400000 in
theorem zzBytes_any (a : Option Addr) (len cap : Nat) (S : Nat → ByteArray) (N : Nat → Int) (w : World) (h : TaskArr w a len S N) :
    Calls Trym.prog 13 #[.slice a len cap] w fun e w' => RetBool e ∧ w' = w := by
  have hm := h.small
  unfold maxLen at hm
  go_enter Trym.func13, Trym.ntmps13
  go_wp2
  · go_ret
    exact ⟨retBool _, rfl⟩
  go_loop [3, 4] (fun z i => ∃ k : Nat, ∃ zz : Int, k ≤ len ∧ i = .int .i64 k ∧ z = .int .i64 zz ∧ 0 ≤ zz ∧ zz ≤ 1048576) (fun _ i => len - (intOf i).toNat)
  case atStart => exact ⟨0, _, Nat.zero_le _, rfl, rfl, by omega, by omega⟩
  case round =>
    obtain ⟨k, zz, hk, rfl, rfl, hz0, hz1⟩ := hrel
    by_cases hlt : k < len
    · obtain ⟨b, off, rfl, hbl, hc0, hc1⟩ := h.at' (by omega)
      have g0 := hc0 k hlt
      clear hc0 hc1
      go_wp2
      · go_ret
        exact ⟨retBool _, rfl⟩
      · go_ret
        exact ⟨retBool _, rfl⟩
      · go_round
        case rel => exact ⟨k + 1, _, by omega, by go_num, rfl, by omega, by omega⟩
        case measure => simp [intOf]; omega
    · go_wp2
      go_ret
      exact ⟨retBool _, rfl⟩

/-- It returned an int of some size. -/
def RetNum (e : Ending) : Prop := ∃ t : Int, 0 ≤ t ∧ t ≤ 3000000 ∧ e = .returned (.int .i64 t)
theorem retNum {t : Int} (h0 : 0 ≤ t) (h1 : t ≤ 3000000) : RetNum (.returned (.int .i64 t)) := ⟨t, h0, h1, rfl⟩

set_option maxHeartbeats 400000 in
theorem zzPlaceBytes_any (a : Option Addr) (len cap : Nat) (S : Nat → ByteArray) (N : Nat → Int) (w : World) (h : TaskArr w a len S N) :
    Calls Trym.prog 14 #[.slice a len cap] w fun e w' => RetNum e ∧ w' = w := by
  have hm := h.small
  unfold maxLen at hm
  go_enter Trym.func14, Trym.ntmps14
  go_wp2
  go_loop [3, 4] (fun z i => ∃ k : Nat, ∃ zz : Int, k ≤ len ∧ i = .int .i64 k ∧ z = .int .i64 zz ∧ 0 ≤ zz ∧ zz ≤ 2500000) (fun _ i => len - (intOf i).toNat)
  case atStart => exact ⟨0, 0, Nat.zero_le _, rfl, rfl, by omega, by omega⟩
  case round =>
    obtain ⟨k, zz, hk, rfl, rfl, hz0, hz1⟩ := hrel
    by_cases hlt : k < len
    · obtain ⟨b, off, rfl, hbl, hc0, hc1⟩ := h.at' (by omega)
      have g0 := hc0 k hlt
      clear hc0 hc1
      by_cases hz : 1048576 < zz
      · go_wp2
        go_ret
        exact ⟨retNum (by omega) (by omega), rfl⟩
      · have hd : decide (1048576 < zz) = false := by simpa using hz
        by_cases hs : (1048576 : Int) < ((S k).size : Int)
        · go_wp2
          go_ret
          exact ⟨retNum (by omega) (by omega), rfl⟩
        · go_wp2
          go_round
          case rel => exact ⟨k + 1, _, by omega, by go_num, rfl, by omega, by omega⟩
          case measure => simp [intOf]; omega
    · go_wp2
      go_ret
      exact ⟨retNum (by omega) (by omega), rfl⟩

set_option maxHeartbeats 400000 in
theorem zzBytes5_any (a : Option Addr) (len cap : Nat) (S : Nat → ByteArray) (N : Nat → Int) (q : ByteArray) (n : Int) (w : World) (h : TaskArr w a len S N) (hq : q.size ≤ maxLen) :
    Calls Trym.prog 19 #[.slice a len cap, .string q, .int .i64 n] w fun e w' => RetBool e ∧ w' = w := by
  have hm := h.small
  unfold maxLen at hm hq
  go_enter Trym.func19, Trym.ntmps19
  go_wp2
  · go_ret
    exact ⟨retBool _, rfl⟩
  go_loop [7, 8] (fun z i => ∃ k : Nat, ∃ zz : Int, k ≤ len ∧ i = .int .i64 k ∧ z = .int .i64 zz ∧ 0 ≤ zz ∧ zz ≤ 1048576) (fun _ i => len - (intOf i).toNat)
  case atStart => exact ⟨0, _, Nat.zero_le _, rfl, rfl, by omega, by omega⟩
  case round =>
    obtain ⟨k, zz, hk, rfl, rfl, hz0, hz1⟩ := hrel
    by_cases hlt : k < len
    · obtain ⟨b, off, rfl, hbl, hc0, hc1⟩ := h.at' (by omega)
      have g0 := hc0 k hlt
      clear hc0 hc1
      go_wp2
      · go_ret
        exact ⟨retBool _, rfl⟩
      · go_ret
        exact ⟨retBool _, rfl⟩
      · go_round
        case rel => exact ⟨k + 1, _, by omega, by go_num, rfl, by omega, by omega⟩
        case measure => simp [intOf]; omega
    · go_wp2
      all_goals
        go_ret
        exact ⟨retBool _, rfl⟩
end Go.Proofs.Qxb6616021aMods

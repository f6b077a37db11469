import Derived.Test.Qxb6616219aModsLeaves
namespace Go.Proofs.Qxb6616219aMods
open Go.ChangeShapes Go.WideShapes Go.ChangeAt Go.RowKit

set_option maxHeartbeats 1000000 in
theorem bytesOne_any (a : Option Addr) (len cap : Nat) (S : Nat → ByteArray) (da : Option Addr) (dl dc : Nat) (D : Nat → ByteArray) (v : ByteArray) (w : World) (hS : StrArr w a len S) (hD : StrArr w da dl D) (hv : v.size ≤ maxLen) :
    Calls Trym.prog 7 #[.slice a len cap, .slice da dl dc, .string v] w fun e w' => RetBool e ∧ w' = w := by
  have hm := hS.small
  have hm2 := hD.small
  unfold maxLen at hm hm2 hv
  go_enter Trym.func7, Trym.ntmps7
  go_wp2
  · go_ret
    exact ⟨retBool _, rfl⟩
  go_loop [7, 8] (fun z i => ∃ k : Nat, ∃ zz : Int, k ≤ len ∧ i = .int .i64 k ∧ z = .int .i64 zz ∧ 0 ≤ zz ∧ zz ≤ 1048576) (fun _ i => len - (intOf i).toNat)
  case atStart => exact ⟨0, _, Nat.zero_le _, rfl, rfl, by omega, by omega⟩
  case round =>
    obtain ⟨k, zz, hk, rfl, rfl, hz0, hz1⟩ := hrel
    by_cases hlt : k < len
    · obtain ⟨b, off, rfl, hbl, hc0⟩ := hS.at' (by omega)
      have g0 := hc0 k hlt
      clear hc0
      go_wp2
      · go_ret
        exact ⟨retBool _, rfl⟩
      · go_ret
        exact ⟨retBool _, rfl⟩
      · go_round
        case rel => exact ⟨k + 1, _, by omega, by go_num, rfl, by omega, by omega⟩
        case measure => simp [intOf]; omega
    · go_wp2
      · go_ret
        exact ⟨retBool _, rfl⟩
      · go_ret
        exact ⟨retBool _, rfl⟩
      go_loop [7, 9] (fun z i => ∃ k : Nat, ∃ zz : Int, k ≤ dl ∧ i = .int .i64 k ∧ z = .int .i64 zz ∧ 0 ≤ zz ∧ zz ≤ 1048576) (fun _ i => dl - (intOf i).toNat)
      case atStart => exact ⟨0, _, Nat.zero_le _, rfl, rfl, by omega, by omega⟩
      case round =>
        obtain ⟨k, zz, hk, rfl, rfl, hz0, hz1⟩ := hrel
        by_cases hlt : k < dl
        · obtain ⟨b, off, rfl, hbl, hc0⟩ := hD.at' (by omega)
          have g0 := hc0 k hlt
          clear hc0
          go_wp2
          · go_ret
            exact ⟨retBool _, rfl⟩
          · go_ret
            exact ⟨retBool _, rfl⟩
          · go_round
            case rel => exact ⟨k + 1, _, by omega, by go_num, rfl, by omega, by omega⟩
            case measure => simp [intOf]; omega
        · go_wp2
          all_goals
            go_ret
            exact ⟨retBool _, rfl⟩

set_option maxHeartbeats 1000000 in
theorem bytesAny_any (a : Option Addr) (len cap : Nat) (S : Nat → ByteArray) (da : Option Addr) (dl dc : Nat) (D : Nat → ByteArray) (va : Option Addr) (vl vc : Nat) (V : Nat → ByteArray) (w : World) (hS : StrArr w a len S) (hD : StrArr w da dl D) (hV : StrArr w va vl V) :
    Calls Trym.prog 12 #[.slice a len cap, .slice da dl dc, .slice va vl vc] w fun e w' => RetBool e ∧ w' = w := by
  have hm := hS.small
  have hm2 := hD.small
  have hm3 := hV.small
  unfold maxLen at hm hm2 hm3
  go_enter Trym.func12, Trym.ntmps12
  go_wp2
  · go_ret
    exact ⟨retBool _, rfl⟩
  go_loop [7, 8] (fun z i => ∃ k : Nat, ∃ zz : Int, k ≤ len ∧ i = .int .i64 k ∧ z = .int .i64 zz ∧ 0 ≤ zz ∧ zz ≤ 1048576) (fun _ i => len - (intOf i).toNat)
  case atStart => exact ⟨0, _, Nat.zero_le _, rfl, rfl, by omega, by omega⟩
  case round =>
    obtain ⟨k, zz, hk, rfl, rfl, hz0, hz1⟩ := hrel
    by_cases hlt : k < len
    · obtain ⟨b, off, rfl, hbl, hc0⟩ := hS.at' (by omega)
      have g0 := hc0 k hlt
      clear hc0
      go_wp2
      · go_ret
        exact ⟨retBool _, rfl⟩
      · go_ret
        exact ⟨retBool _, rfl⟩
      · go_round
        case rel => exact ⟨k + 1, _, by omega, by go_num, rfl, by omega, by omega⟩
        case measure => simp [intOf]; omega
    · go_wp2
      · go_ret
        exact ⟨retBool _, rfl⟩
      · go_ret
        exact ⟨retBool _, rfl⟩
      go_loop [7, 9] (fun z i => ∃ k : Nat, ∃ zz : Int, k ≤ dl ∧ i = .int .i64 k ∧ z = .int .i64 zz ∧ 0 ≤ zz ∧ zz ≤ 1048576) (fun _ i => dl - (intOf i).toNat)
      case atStart => exact ⟨0, _, Nat.zero_le _, rfl, rfl, by omega, by omega⟩
      case round =>
        obtain ⟨k, zz, hk, rfl, rfl, hz0, hz1⟩ := hrel
        by_cases hlt : k < dl
        · obtain ⟨b, off, rfl, hbl, hc0⟩ := hD.at' (by omega)
          have g0 := hc0 k hlt
          clear hc0
          go_wp2
          · go_ret
            exact ⟨retBool _, rfl⟩
          · go_ret
            exact ⟨retBool _, rfl⟩
          · go_round
            case rel => exact ⟨k + 1, _, by omega, by go_num, rfl, by omega, by omega⟩
            case measure => simp [intOf]; omega
        · go_wp2
          · go_ret
            exact ⟨retBool _, rfl⟩
          · go_ret
            exact ⟨retBool _, rfl⟩
          go_loop [7, 10] (fun z i => ∃ k : Nat, ∃ zz : Int, k ≤ vl ∧ i = .int .i64 k ∧ z = .int .i64 zz ∧ 0 ≤ zz ∧ zz ≤ 1048576) (fun _ i => vl - (intOf i).toNat)
          case atStart => exact ⟨0, _, Nat.zero_le _, rfl, rfl, by omega, by omega⟩
          case round =>
            obtain ⟨k, zz, hk, rfl, rfl, hz0, hz1⟩ := hrel
            by_cases hlt : k < vl
            · obtain ⟨b, off, rfl, hbl, hc0⟩ := hV.at' (by omega)
              have g0 := hc0 k hlt
              clear hc0
              go_wp2
              · go_ret
                exact ⟨retBool _, rfl⟩
              · go_ret
                exact ⟨retBool _, rfl⟩
              · go_round
                case rel => exact ⟨k + 1, _, by omega, by go_num, rfl, by omega, by omega⟩
                case measure => simp [intOf]; omega
            · go_wp2
              all_goals
                go_ret
                exact ⟨retBool _, rfl⟩
end Go.Proofs.Qxb6616219aMods

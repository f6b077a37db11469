import Derived.Test.Qxb6616736aModsSize
namespace Go.Proofs.Qxb6616736aMods
open Go.ChangeShapes Go.WideShapes Go.ChangeAt Go.RowKit

/-- Each of the first n is at most 1<<20. -/
def Each (M : Nat → Nat) (n : Nat) : Prop := ∀ i, i < n → M i ≤ 1048576
theorem Each.zero (M : Nat → Nat) : Each M 0 := fun i hi => absurd hi (Nat.not_lt_zero i)
theorem Each.succ {M : Nat → Nat} {n : Nat} (h : Each M n) (h1 : M n ≤ 1048576) : Each M (n + 1) := fun i hi => by
  rcases Nat.lt_or_eq_of_le (Nat.le_of_lt_succ hi) with h2 | h2
  · exact h i h2
  · subst h2; exact h1
/-- A guard that answers a bool, and what its 'true' tells. -/
def OkPost (P : Prop) (e : Ending) : Prop := ∃ B : Bool, e = .returned (.bool B) ∧ (B = true → P)
theorem okNo {P : Prop} : OkPost P (.returned (.bool false)) := ⟨false, rfl, fun h => by cases h⟩
theorem okYes {P : Prop} (h : P) : OkPost P (.returned (.bool true)) := ⟨true, rfl, fun _ => h⟩

set_option maxHeartbeats 1000000 in
theorem bytes4_any (ta : Option Addr) (tl tc : Nat) (S : Nat → ByteArray) (ba : Option Addr) (bl bc : Nat) (A : Nat → Option Addr) (L C : Nat → Nat) (ia : Option Addr) (il ic : Nat) (s : ByteArray) (xa : Option Addr) (xl xc : Nat) (v z : Int) (w : World)
    (hT : CellArr w ta tl (fun i => .string (S i))) (hB : CellArr w ba bl (fun i => .slice (A i) (L i) (C i))) (hil : il ≤ maxLen) (hxl : xl ≤ maxLen) :
    Calls Trym.prog 10 #[.slice ta tl tc, .slice ba bl bc, .slice ia il ic, .string s, .slice xa xl xc, .int .i64 v, .int .i64 z] w fun e w' => OkPost (Each (fun i => (S i).size) tl ∧ Each L bl) e ∧ w' = w := by
  have h1 := hT.small
  have h2 := hB.small
  unfold maxLen at h1 h2 hil hxl
  go_enter Trym.func10, Trym.ntmps10
  go_wp2
  · go_ret
    exact ⟨okNo, rfl⟩
  go_loop [15, 16] (fun z i => ∃ k : Nat, ∃ zz : Int, k ≤ tl ∧ i = .int .i64 k ∧ z = .int .i64 zz ∧ 0 ≤ zz ∧ zz ≤ 1048576 ∧ Each (fun i => (S i).size) k) (fun _ i => tl - (intOf i).toNat)
  case atStart => exact ⟨0, _, Nat.zero_le _, rfl, rfl, by omega, by omega, Each.zero _⟩
  case round =>
    obtain ⟨k, zz, hk, rfl, rfl, hz0, hz1, e1⟩ := hrel
    by_cases hlt : k < tl
    · obtain ⟨b, off, rfl, hbl, hc0⟩ := hT.at' (by omega)
      have g0 := hc0 k hlt
      clear hc0
      go_wp2
      · go_ret
        exact ⟨okNo, rfl⟩
      · go_ret
        exact ⟨okNo, rfl⟩
      · go_round
        case rel => exact ⟨k + 1, _, by omega, by go_num, rfl, by omega, by omega, e1.succ (by omega)⟩
        case measure => simp [intOf]; omega
    · have hkE : tl = k := by omega
      subst hkE
      go_wp2
      · go_ret
        exact ⟨okNo, rfl⟩
      · go_ret
        exact ⟨okNo, rfl⟩
      go_loop [15, 17] (fun z i => ∃ k : Nat, ∃ zz : Int, k ≤ bl ∧ i = .int .i64 k ∧ z = .int .i64 zz ∧ 0 ≤ zz ∧ zz ≤ 1048576 ∧ Each L k) (fun _ i => bl - (intOf i).toNat)
      case atStart => exact ⟨0, _, Nat.zero_le _, rfl, rfl, by omega, by omega, Each.zero _⟩
      case round =>
        obtain ⟨k, zz, hk, rfl, rfl, hz0, hz1, e2⟩ := hrel
        by_cases hlt : k < bl
        · obtain ⟨b, off, rfl, hbl, hc0⟩ := hB.at' (by omega)
          have g0 := hc0 k hlt
          clear hc0
          go_wp2
          · go_ret
            exact ⟨okNo, rfl⟩
          · go_ret
            exact ⟨okNo, rfl⟩
          · go_round
            case rel => exact ⟨k + 1, _, by omega, by go_num, rfl, by omega, by omega, e2.succ (by omega)⟩
            case measure => simp [intOf]; omega
        · have hkE : bl = k := by omega
          subst hkE
          go_wp2
          all_goals
            go_ret
            first | exact ⟨okNo, rfl⟩ | exact ⟨okYes ⟨e1, e2⟩, rfl⟩ | exact ⟨okYes trivial, rfl⟩

set_option maxHeartbeats 1000000 in
theorem bytes3_any (ca : Option Addr) (cl cc : Nat) (K : Nat → ByteArray) (ta : Option Addr) (tl tc : Nat) (S : Nat → ByteArray) (ba : Option Addr) (bl bc : Nat) (A : Nat → Option Addr) (L C : Nat → Nat) (ia : Option Addr) (il ic : Nat) (z0 z1 z2 z3 z4 : Int) (w : World)
    (hC : CellArr w ca cl (fun i => .string (K i))) (hT : CellArr w ta tl (fun i => .string (S i))) (hB : CellArr w ba bl (fun i => .slice (A i) (L i) (C i))) (hil : il ≤ maxLen) :
    Calls Trym.prog 5 #[.slice ca cl cc, .slice ta tl tc, .slice ba bl bc, .slice ia il ic, .int .i64 z0, .int .i64 z1, .int .i64 z2, .int .i64 z3, .int .i64 z4] w fun e w' => OkPost (Each (fun i => (K i).size) cl ∧ Each (fun i => (S i).size) tl ∧ Each L bl) e ∧ w' = w := by
  have h0 := hC.small
  have h1 := hT.small
  have h2 := hB.small
  unfold maxLen at h0 h1 h2 hil
  go_enter Trym.func5, Trym.ntmps5
  go_wp2
  · go_ret
    exact ⟨okNo, rfl⟩
  go_loop [19, 20] (fun z i => ∃ k : Nat, ∃ zz : Int, k ≤ cl ∧ i = .int .i64 k ∧ z = .int .i64 zz ∧ 0 ≤ zz ∧ zz ≤ 1048576 ∧ Each (fun i => (K i).size) k) (fun _ i => cl - (intOf i).toNat)
  case atStart => exact ⟨0, _, Nat.zero_le _, rfl, rfl, by omega, by omega, Each.zero _⟩
  case round =>
    obtain ⟨k, zz, hk, rfl, rfl, hz0, hz1, e0⟩ := hrel
    by_cases hlt : k < cl
    · obtain ⟨b, off, rfl, hbl, hc0⟩ := hC.at' (by omega)
      have g0 := hc0 k hlt
      clear hc0
      go_wp2
      · go_ret
        exact ⟨okNo, rfl⟩
      · go_ret
        exact ⟨okNo, rfl⟩
      · go_round
        case rel => exact ⟨k + 1, _, by omega, by go_num, rfl, by omega, by omega, e0.succ (by omega)⟩
        case measure => simp [intOf]; omega
    · have hkE : cl = k := by omega
      subst hkE
      go_wp2
      · go_ret
        exact ⟨okNo, rfl⟩
      · go_ret
        exact ⟨okNo, rfl⟩
      go_loop [19, 21] (fun z i => ∃ k : Nat, ∃ zz : Int, k ≤ tl ∧ i = .int .i64 k ∧ z = .int .i64 zz ∧ 0 ≤ zz ∧ zz ≤ 1048576 ∧ Each (fun i => (S i).size) k) (fun _ i => tl - (intOf i).toNat)
      case atStart => exact ⟨0, _, Nat.zero_le _, rfl, rfl, by omega, by omega, Each.zero _⟩
      case round =>
        obtain ⟨k, zz, hk, rfl, rfl, hz0, hz1, e1⟩ := hrel
        by_cases hlt : k < tl
        · obtain ⟨b, off, rfl, hbl, hc0⟩ := hT.at' (by omega)
          have g0 := hc0 k hlt
          clear hc0
          go_wp2
          · go_ret
            exact ⟨okNo, rfl⟩
          · go_ret
            exact ⟨okNo, rfl⟩
          · go_round
            case rel => exact ⟨k + 1, _, by omega, by go_num, rfl, by omega, by omega, e1.succ (by omega)⟩
            case measure => simp [intOf]; omega
        · have hkE : tl = k := by omega
          subst hkE
          go_wp2
          · go_ret
            exact ⟨okNo, rfl⟩
          · go_ret
            exact ⟨okNo, rfl⟩
          go_loop [19, 22] (fun z i => ∃ k : Nat, ∃ zz : Int, k ≤ bl ∧ i = .int .i64 k ∧ z = .int .i64 zz ∧ 0 ≤ zz ∧ zz ≤ 1048576 ∧ Each L k) (fun _ i => bl - (intOf i).toNat)
          case atStart => exact ⟨0, _, Nat.zero_le _, rfl, rfl, by omega, by omega, Each.zero _⟩
          case round =>
            obtain ⟨k, zz, hk, rfl, rfl, hz0, hz1, e2⟩ := hrel
            by_cases hlt : k < bl
            · obtain ⟨b, off, rfl, hbl, hc0⟩ := hB.at' (by omega)
              have g0 := hc0 k hlt
              clear hc0
              go_wp2
              · go_ret
                exact ⟨okNo, rfl⟩
              · go_ret
                exact ⟨okNo, rfl⟩
              · go_round
                case rel => exact ⟨k + 1, _, by omega, by go_num, rfl, by omega, by omega, e2.succ (by omega)⟩
                case measure => simp [intOf]; omega
            · have hkE : bl = k := by omega
              subst hkE
              go_wp2
              all_goals
                go_ret
                first | exact ⟨okNo, rfl⟩ | exact ⟨okYes ⟨e0, e1, e2⟩, rfl⟩ | exact ⟨okYes trivial, rfl⟩
end Go.Proofs.Qxb6616736aMods

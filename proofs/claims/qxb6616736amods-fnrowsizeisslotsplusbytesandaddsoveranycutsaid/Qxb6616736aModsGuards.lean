import Derived.Test.Qxb6616736aModsBytes
namespace Go.Proofs.Qxb6616736aMods
open Go.ChangeShapes Go.WideShapes Go.ChangeAt Go.RowKit

/-- What zzRowTooBig's 'false' tells. -/
structure Small (cl tl bl il : Nat) (z : Int) (K S L : Nat → Nat) : Prop where
  t : tl ≤ 65536
  b : bl ≤ 65536
  i : il ≤ 131072
  z0 : 0 ≤ z
  tot : z + 16 * (cl : Int) + 16 * (tl : Int) + 24 * (bl : Int) + 8 * (il : Int) + (sumN K cl : Nat) + (sumN S tl : Nat) + (sumN L bl : Nat) ≤ 1048576
def SmallPost (cl tl bl il : Nat) (z : Int) (K S L : Nat → Nat) (e : Ending) : Prop := ∃ B : Bool, e = .returned (.bool B) ∧ (B = false → Small cl tl bl il z K S L)
theorem big {cl tl bl il : Nat} {z : Int} {K S L : Nat → Nat} : SmallPost cl tl bl il z K S L (.returned (.bool true)) := ⟨true, rfl, fun h => by cases h⟩

set_option maxHeartbeats 2000000 in
theorem tooBig_any (ca : Option Addr) (cl cc : Nat) (K : Nat → ByteArray) (ta : Option Addr) (tl tc : Nat) (S : Nat → ByteArray) (ba : Option Addr) (bl bc : Nat) (A : Nat → Option Addr) (L C : Nat → Nat) (ia : Option Addr) (il ic : Nat) (z : Int) (w : World)
    (hC : CellArr w ca cl (fun i => .string (K i))) (hT : CellArr w ta tl (fun i => .string (S i))) (hB : CellArr w ba bl (fun i => .slice (A i) (L i) (C i)))
    (EhC : Each (fun i => (K i).size) cl) (EhT : Each (fun i => (S i).size) tl) (EhB : Each L bl) :
    Calls Trym.prog 6 #[.slice ca cl cc, .slice ta tl tc, .slice ba bl bc, .slice ia il ic, .int .i64 z] w fun e w' => SmallPost cl tl bl il z (fun i => (K i).size) (fun i => (S i).size) L e ∧ w' = w := by
  by_cases g1 : cl ≤ 65536
  case neg =>
    have q1 : 65536 < cl := by omega
    go_enter Trym.func6, Trym.ntmps6
    go_wp2
    go_ret
    exact ⟨big, rfl⟩
  by_cases g2 : tl ≤ 65536
  case neg =>
    have q1 : ¬ 65536 < cl := by omega
    have q2 : 65536 < tl := by omega
    go_enter Trym.func6, Trym.ntmps6
    go_wp2
    go_ret
    exact ⟨big, rfl⟩
  by_cases g3 : bl ≤ 65536
  case neg =>
    have q1 : ¬ 65536 < cl := by omega
    have q2 : ¬ 65536 < tl := by omega
    have q3 : 65536 < bl := by omega
    go_enter Trym.func6, Trym.ntmps6
    go_wp2
    go_ret
    exact ⟨big, rfl⟩
  by_cases g4 : il ≤ 131072
  case neg =>
    have q4 : 131072 < il := by omega
    go_enter Trym.func6, Trym.ntmps6
    go_wp2
    go_ret
    exact ⟨big, rfl⟩
  by_cases g5 : z < 0
  case pos =>
    go_enter Trym.func6, Trym.ntmps6
    go_wp2
    go_ret
    exact ⟨big, rfl⟩
  by_cases g6 : z > 1048576
  case pos =>
    go_enter Trym.func6, Trym.ntmps6
    go_wp2
    go_ret
    exact ⟨big, rfl⟩
  go_enter Trym.func6, Trym.ntmps6
  go_wp2
  · go_ret
    exact ⟨big, rfl⟩
  · have HA0 : Hid (0 = (0 : Int)) := rfl
    go_loop [11, 12] (fun y i => ∃ k : Nat, ∃ yy : Int, k ≤ cl ∧ i = .int .i64 k ∧ y = .int .i64 yy ∧ 0 ≤ yy ∧ yy ≤ 1048576 ∧ Hid (yy = z + 16 * (cl : Int) + 16 * (tl : Int) + 24 * (bl : Int) + 8 * (il : Int) + (sumN (fun i => (K i).size) k : Nat))) (fun _ i => cl - (intOf i).toNat)
    case atStart => exact ⟨0, _, Nat.zero_le _, rfl, rfl, by omega, by omega, by have := HA0.out; show _ = _; rw [sumN_zero]; omega⟩
    case round =>
      obtain ⟨k, yy, hk, rfl, rfl, hz0, hz1, hy⟩ := hrel
      by_cases hlt : k < cl
      · obtain ⟨b, off, rfl, hbl, hc0⟩ := hC.at' (by omega)
        have g0 := hc0 k hlt
        have g1 : (K k).size ≤ 1048576 := EhC k hlt
        clear hc0
        go_wp2
        · go_ret
          exact ⟨big, rfl⟩
        · go_round
          case rel => exact ⟨k + 1, _, by omega, by go_num, rfl, by omega, by omega, by have := hy.out; show _ = _; rw [sumN_succ]; omega⟩
          case measure => simp [intOf]; omega
      · have hkE : cl = k := by omega
        subst hkE
        have HA1 : Hid (yy = z + 16 * (cl : Int) + 16 * (tl : Int) + 24 * (bl : Int) + 8 * (il : Int) + (sumN (fun i => (K i).size) cl : Nat)) := hy
        clear hy
        go_wp2
        go_loop [11, 13] (fun y i => ∃ k : Nat, ∃ yy : Int, k ≤ tl ∧ i = .int .i64 k ∧ y = .int .i64 yy ∧ 0 ≤ yy ∧ yy ≤ 1048576 ∧ Hid (yy = z + 16 * (cl : Int) + 16 * (tl : Int) + 24 * (bl : Int) + 8 * (il : Int) + (sumN (fun i => (K i).size) cl : Nat) + (sumN (fun i => (S i).size) k : Nat))) (fun _ i => tl - (intOf i).toNat)
        case atStart => exact ⟨0, _, Nat.zero_le _, rfl, rfl, by omega, by omega, by have := HA1.out; show _ = _; rw [sumN_zero]; omega⟩
        case round =>
          obtain ⟨k, yy, hk, rfl, rfl, hz0, hz1, hy⟩ := hrel
          by_cases hlt : k < tl
          · obtain ⟨b, off, rfl, hbl, hc0⟩ := hT.at' (by omega)
            have g0 := hc0 k hlt
            have g1 : (S k).size ≤ 1048576 := EhT k hlt
            clear hc0
            go_wp2
            · go_ret
              exact ⟨big, rfl⟩
            · go_round
              case rel => exact ⟨k + 1, _, by omega, by go_num, rfl, by omega, by omega, by have := hy.out; show _ = _; rw [sumN_succ]; omega⟩
              case measure => simp [intOf]; omega
          · have hkE : tl = k := by omega
            subst hkE
            have HA2 : Hid (yy = z + 16 * (cl : Int) + 16 * (tl : Int) + 24 * (bl : Int) + 8 * (il : Int) + (sumN (fun i => (K i).size) cl : Nat) + (sumN (fun i => (S i).size) tl : Nat)) := hy
            clear hy
            go_wp2
            go_loop [11, 14] (fun y i => ∃ k : Nat, ∃ yy : Int, k ≤ bl ∧ i = .int .i64 k ∧ y = .int .i64 yy ∧ 0 ≤ yy ∧ yy ≤ 1048576 ∧ Hid (yy = z + 16 * (cl : Int) + 16 * (tl : Int) + 24 * (bl : Int) + 8 * (il : Int) + (sumN (fun i => (K i).size) cl : Nat) + (sumN (fun i => (S i).size) tl : Nat) + (sumN L k : Nat))) (fun _ i => bl - (intOf i).toNat)
            case atStart => exact ⟨0, _, Nat.zero_le _, rfl, rfl, by omega, by omega, by have := HA2.out; show _ = _; rw [sumN_zero]; omega⟩
            case round =>
              obtain ⟨k, yy, hk, rfl, rfl, hz0, hz1, hy⟩ := hrel
              by_cases hlt : k < bl
              · obtain ⟨b, off, rfl, hbl, hc0⟩ := hB.at' (by omega)
                have g0 := hc0 k hlt
                have g1 : L k ≤ 1048576 := EhB k hlt
                clear hc0
                go_wp2
                · go_ret
                  exact ⟨big, rfl⟩
                · go_round
                  case rel => exact ⟨k + 1, _, by omega, by go_num, rfl, by omega, by omega, by have := hy.out; show _ = _; rw [sumN_succ]; omega⟩
                  case measure => simp [intOf]; omega
              · have hkE : bl = k := by omega
                subst hkE
                have HA3 : Hid (yy = z + 16 * (cl : Int) + 16 * (tl : Int) + 24 * (bl : Int) + 8 * (il : Int) + (sumN (fun i => (K i).size) cl : Nat) + (sumN (fun i => (S i).size) tl : Nat) + (sumN L bl : Nat)) := hy
                clear hy
                go_wp2
                go_ret
                exact ⟨⟨false, rfl, fun _ => ⟨by omega, by omega, by omega, by omega, by have := HA3.out; omega⟩⟩, rfl⟩

set_option maxHeartbeats 1000000 in
theorem model_any (ta : Option Addr) (tl tc : Nat) (S : Nat → ByteArray) (ba : Option Addr) (bl bc : Nat) (A : Nat → Option Addr) (L C : Nat → Nat) (p q : Int) (w : World)
    (hT : CellArr w ta tl (fun i => .string (S i))) (hB : CellArr w ba bl (fun i => .slice (A i) (L i) (C i)))
    (ht : tl ≤ 65536) (hb : bl ≤ 65536) (hp0 : 0 ≤ p) (hp1 : p ≤ 131072) (hq0 : 0 ≤ q) (hq1 : q ≤ 131072)
    (EhT : Hid (sumN (fun i => (S i).size) tl ≤ 1048576)) (EhB : Hid (sumN L bl ≤ 1048576)) :
    Calls Trym.prog 9 #[.slice ta tl tc, .slice ba bl bc, .int .i64 p, .int .i64 q] w fun e w' => e = .returned (.int .i64 (16 * ((tl : Int) + bl + p + q) + (sumN (fun i => (S i).size) tl : Nat) + (sumN L bl : Nat))) ∧ w' = w := by
  go_enter Trym.func9, Trym.ntmps9
  go_wp2
  go_loop [9, 10] (fun y i => ∃ k : Nat, k ≤ tl ∧ i = .int .i64 k ∧ y = .int .i64 (16 * ((tl : Int) + bl + p + q) + (sumN (fun i => (S i).size) k : Nat))) (fun _ i => tl - (intOf i).toNat)
  case atStart => exact ⟨0, Nat.zero_le _, rfl, by rw [sumN_zero]; simp⟩
  case round =>
    obtain ⟨k, hk, rfl, rfl⟩ := hrel
    by_cases hlt : k < tl
    · obtain ⟨b, off, rfl, hbl, hc0⟩ := hT.at' (by omega)
      have g0 := hc0 k hlt
      have m1 := sumN_mono (fun i => (S i).size) (show k + 1 ≤ tl from hlt)
      have m2 := sumN_succ (fun i => (S i).size) k
      have b0 : sumN (fun i => (S i).size) k ≤ 1048576 := by have := EhT.out; omega
      have b1 : (sumN (fun i => (S i).size) k : Int) + ((S k).size : Int) ≤ 1048576 := by have := EhT.out; omega
      clear hc0 m1 m2
      go_wp2
      go_round
      case rel => exact ⟨k + 1, by omega, by go_num, by rw [sumN_succ]; first | (congr 1; omega) | (simp; omega)⟩
      case measure => simp [intOf]; omega
    · have hkE : tl = k := by omega
      subst hkE
      have bhT : sumN (fun i => (S i).size) tl ≤ 1048576 := EhT.out
      go_wp2
      go_loop [9, 11] (fun y i => ∃ k : Nat, k ≤ bl ∧ i = .int .i64 k ∧ y = .int .i64 (16 * ((tl : Int) + bl + p + q) + (sumN (fun i => (S i).size) tl : Nat) + (sumN L k : Nat))) (fun _ i => bl - (intOf i).toNat)
      case atStart => exact ⟨0, Nat.zero_le _, rfl, by rw [sumN_zero]; simp⟩
      case round =>
        obtain ⟨k, hk, rfl, rfl⟩ := hrel
        by_cases hlt : k < bl
        · obtain ⟨b, off, rfl, hbl, hc0⟩ := hB.at' (by omega)
          have g0 := hc0 k hlt
          have m1 := sumN_mono L (show k + 1 ≤ bl from hlt)
          have m2 := sumN_succ L k
          have b0 : sumN L k ≤ 1048576 := by have := EhB.out; omega
          have b1 : (sumN L k : Int) + (L k : Int) ≤ 1048576 := by have := EhB.out; omega
          clear hc0 m1 m2
          go_wp2
          go_round
          case rel => exact ⟨k + 1, by omega, by go_num, by rw [sumN_succ]; first | (congr 1; omega) | (simp; omega)⟩
          case measure => simp [intOf]; omega
        · have hkE : bl = k := by omega
          subst hkE
          have bhB : sumN L bl ≤ 1048576 := EhB.out
          go_wp2
          go_ret
          exact ⟨rfl, rfl⟩
end Go.Proofs.Qxb6616736aMods

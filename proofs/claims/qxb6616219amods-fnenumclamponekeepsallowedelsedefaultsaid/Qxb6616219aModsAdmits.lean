import Derived.Test.Qxb6616219aModsSearch
namespace Go.Proofs.Qxb6616219aMods
open Go.ChangeShapes Go.WideShapes Go.ChangeAt Go.RowKit

theorem bcell {B : Nat} {W w1 : World} (hb : Below B W w1) : (∀ b o, b < B → w1.cell? ⟨b, o, none⟩ = W.cell? ⟨b, o, none⟩) ∧ (∀ b o, b < B → w1.frozen? ⟨b, o, none⟩ = W.frozen? ⟨b, o, none⟩) :=
  ⟨fun b o h => hb.cell (p := ⟨b, o, none⟩) h, fun b o h => hb.frozen (p := ⟨b, o, none⟩) h⟩

/-- An enum_set bound as a value. -/
abbrev bnd (p : ByteArray) (a : Option Addr) (len cap : Nat) (da : Option Addr) (dl dc : Nat) : Value := .agg #[.string p, .slice a len cap, .slice da dl dc]

set_option maxHeartbeats 400000 in
theorem allowsAll_any (p : ByteArray) (a : Option Addr) (len cap : Nat) (S : Nat → ByteArray) (da : Option Addr) (dl dc : Nat) (ma : Option Addr) (ml mc : Nat) (M : Nat → ByteArray) (w : World) (hS : StrArr w a len S) (hM : StrArr w ma ml M) (hA : Asc S len) (hsm : len ≤ 1048576) :
    Calls Trym.prog 28 #[bnd p a len cap da dl dc, .slice ma ml mc] w fun e w' => e = .returned (.bool (allB M ml S len)) ∧ Below w.heap.size w w' := by
  have hm := hM.small
  unfold maxLen at hm
  have HA : Hid (Asc S len) := hA
  clear hA
  have hal : Below w.heap.size w (w.alloc (.cells #[.string p, .slice a len cap, .slice da dl dc] 41)) := (Below.refl _ _).alloc (Nat.le_refl _) _
  go_enter Trym.func28, Trym.ntmps28
  go_wp2
  go_loopw [9] (fun i wr => ∃ k : Nat, k ≤ ml ∧ i = .int .i64 k ∧ Below w.heap.size w wr ∧ wr.cell? ⟨w.heap.size, 0, none⟩ = some (.string p) ∧ wr.cell? ⟨w.heap.size, 1, none⟩ = some (.slice a len cap) ∧ wr.cell? ⟨w.heap.size, 2, none⟩ = some (.slice da dl dc) ∧ Hid (∀ j, j < k → hasB S len (M j) = true)) (fun i _ => ml - (intOf i).toNat)
  case atStart => exact ⟨0, Nat.zero_le _, rfl, hal, by simp, by simp, by simp, fun j hj => absurd hj (Nat.not_lt_zero _)⟩
  case round =>
    obtain ⟨k, hk, rfl, hnx, q0, q1, q2, hall⟩ := hrel
    by_cases hlt : k < ml
    · obtain ⟨b, off, rfl, hbl, hc0⟩ := (hM.below hnx (Nat.le_refl _)).at' (by omega)
      have g0 := hc0 k hlt
      clear hc0
      have hlt0 : w.heap.size < wr.heap.size := World.block_lt_of_cell? wr _ q0
      cases he : hasB S len (M k) with
      | false =>
        have hh : Hid (allB M ml S len = false) := allB_miss hlt he
        go_wp2_with (go_at_call 30; refine (allows_any p a len cap S _ da dl dc rfl (M k) _ (hS.below hnx (Nat.le_refl _)) HA.out hsm).mono ?_; rintro e w1 ⟨rfl, hb1⟩)
        go_ret
        exact ⟨by rw [hh.out]; rfl, hnx.trans (hb1.mono (Nat.le_of_lt hlt0))⟩
      | true =>
        go_wp2_with (go_at_call 30; refine (allows_any p a len cap S _ da dl dc rfl (M k) _ (hS.below hnx (Nat.le_refl _)) HA.out hsm).mono ?_; rintro e w1 ⟨rfl, hb1⟩)
        go_roundw
        case rel =>
          refine ⟨k + 1, by omega, by go_num, hnx.trans (hb1.mono (Nat.le_of_lt hlt0)), (hb1.cell (p := ⟨w.heap.size, 0, none⟩) hlt0).trans q0, (hb1.cell (p := ⟨w.heap.size, 1, none⟩) hlt0).trans q1, (hb1.cell (p := ⟨w.heap.size, 2, none⟩) hlt0).trans q2, fun j hj => ?_⟩
          rcases Nat.lt_succ_iff_lt_or_eq.1 hj with h' | rfl
          · exact hall.out j h'
          · exact he
        case measure => simp [intOf]; omega
    · have hh : Hid (allB M ml S len = true) := allB_iff.2 (fun i hi => hall.out i (by omega))
      go_wp2
      go_ret
      exact ⟨by rw [hh.out]; rfl, hnx⟩

theorem ta_str (v : ByteArray) (w : World) : (Instr.typeAssert (.iface 9 (.string v)) 20 9 true).run Trym.prog w = .ok (.tuple #[.string v, .bool true]) w := by kernel_rfl
theorem ta_sl (va : Option Addr) (vl vc : Nat) (w : World) : (Instr.typeAssert (.iface 22 (.slice va vl vc)) 20 22 true).run Trym.prog w = .ok (.tuple #[.slice va vl vc, .bool true]) w := by kernel_rfl

set_option maxHeartbeats 400000 in
theorem membersOne_any (v : ByteArray) (w : World) :
    Calls Trym.prog 27 #[.string ⟨#[111, 110, 101]⟩, .iface 9 (.string v)] w fun e w' => e = .returned (.tuple #[.slice (some ⟨w.heap.size, 0, none⟩) 1 1, .bool true]) ∧ Below w.heap.size w w' ∧ w'.cell? ⟨w.heap.size, 0, none⟩ = some (.string v) := by
  have t1 := ta_str
  have t2 := ta_sl
  go_enter Trym.func27, Trym.ntmps27
  go_wp2
  go_ret2
  exact ⟨rfl, (Below.refl _ _).alloc (Nat.le_refl _) _, by simp⟩

set_option maxHeartbeats 400000 in
theorem membersAny_any (va : Option Addr) (vl vc : Nat) (w : World) :
    Calls Trym.prog 27 #[.string ⟨#[97, 110, 121]⟩, .iface 22 (.slice va vl vc)] w fun e w' => e = .returned (.tuple #[.slice va vl vc, .bool true]) ∧ w' = w := by
  have t1 := ta_str
  have t2 := ta_sl
  go_enter Trym.func27, Trym.ntmps27
  go_wp2
  go_ret2
  exact ⟨rfl, rfl⟩

/-- A slice of one string in a block of its own. -/
theorem strArr_one {w : World} {g : Nat} {v : ByteArray} (h : w.cell? ⟨g, 0, none⟩ = some (.string v)) (hv : v.size ≤ maxLen) : StrArr w (some ⟨g, 0, none⟩) 1 (fun _ => v) :=
  ⟨fun _ => ⟨g, 0, rfl, World.block_lt_of_cell? w _ h, fun i hi => by
    have : i = 0 := by omega
    subst this
    exact h⟩, by unfold maxLen; omega, fun _ _ => hv⟩

set_option maxHeartbeats 1000000 in
theorem admitsOne_any (a : Option Addr) (len cap : Nat) (S : Nat → ByteArray) (da : Option Addr) (dl dc : Nat) (v : ByteArray) (w : World) (hS : StrArr w a len S) (hA : Asc S len) (hsm : len ≤ 1048576) (hv : v.size ≤ maxLen) :
    Calls Trym.prog 23 #[bnd ⟨#[111, 110, 101]⟩ a len cap da dl dc, .iface 9 (.string v)] w fun e w' => e = .returned (.bool (hasB S len v)) ∧ Below w.heap.size w w' := by
  have HA : Hid (Asc S len) := hA
  clear hA
  have hal : Below w.heap.size w (w.alloc (.cells #[.string ⟨#[111, 110, 101]⟩, .slice a len cap, .slice da dl dc] 41)) := (Below.refl _ _).alloc (Nat.le_refl _) _
  have HV : Hid (allB (fun _ => v) 1 S len = hasB S len v) := allB_one v S len
  go_enter Trym.func23, Trym.ntmps23
  go_wp2_with fail
  refine (membersOne_any v _).mono ?_
  rintro e w1 ⟨rfl, hb1, hc1⟩
  obtain ⟨hc, hf⟩ := bcell hb1
  have c0 : w1.cell? ⟨w.heap.size, 0, none⟩ = some (.string ⟨#[111, 110, 101]⟩) := by rw [hc _ _ (by simp)]; simp
  have c1 : w1.cell? ⟨w.heap.size, 1, none⟩ = some (.slice a len cap) := by rw [hc _ _ (by simp)]; simp
  have c2 : w1.cell? ⟨w.heap.size, 2, none⟩ = some (.slice da dl dc) := by rw [hc _ _ (by simp)]; simp
  have hbb : Below w.heap.size w w1 := hal.trans (hb1.mono hal.size)
  have hc1' : w1.cell? ⟨w.heap.size + 1, 0, none⟩ = some (.string v) := by simpa using hc1
  clear hc hf hc1
  go_wp2_with fail
  refine (allowsAll_any ⟨#[111, 110, 101]⟩ a len cap S da dl dc (some ⟨w.heap.size + 1, 0, none⟩) 1 1 (fun _ => v) _ (hS.below hbb (Nat.le_refl _)) (strArr_one hc1' hv) HA.out hsm).mono ?_
  rintro e w2 ⟨rfl, hb2⟩
  go_wp2
  go_ret
  exact ⟨by rw [← HV.out]; rfl, hbb.trans (hb2.mono hbb.size)⟩

set_option maxHeartbeats 1000000 in
theorem admitsAny_any (a : Option Addr) (len cap : Nat) (S : Nat → ByteArray) (da : Option Addr) (dl dc : Nat) (va : Option Addr) (vl vc : Nat) (V : Nat → ByteArray) (w : World) (hS : StrArr w a len S) (hV : StrArr w va vl V) (hA : Asc S len) (hsm : len ≤ 1048576) :
    Calls Trym.prog 23 #[bnd ⟨#[97, 110, 121]⟩ a len cap da dl dc, .iface 22 (.slice va vl vc)] w fun e w' => e = .returned (.bool (allB V vl S len)) ∧ Below w.heap.size w w' := by
  have HA : Hid (Asc S len) := hA
  clear hA
  have hal : Below w.heap.size w (w.alloc (.cells #[.string ⟨#[97, 110, 121]⟩, .slice a len cap, .slice da dl dc] 41)) := (Below.refl _ _).alloc (Nat.le_refl _) _
  go_enter Trym.func23, Trym.ntmps23
  go_wp2_with fail
  refine (membersAny_any va vl vc _).mono ?_
  rintro e w1 ⟨rfl, hw⟩
  have hw' := hw.symm
  subst hw'
  clear hw
  go_wp2_with fail
  refine (allowsAll_any ⟨#[97, 110, 121]⟩ a len cap S da dl dc va vl vc V _ (hS.below hal (Nat.le_refl _)) (hV.below hal (Nat.le_refl _)) HA.out hsm).mono ?_
  rintro e w2 ⟨rfl, hb2⟩
  go_wp2
  go_ret
  exact ⟨rfl, hal.trans (hb2.mono hal.size)⟩

set_option maxHeartbeats 1000000 in
theorem defaultOne_any (a : Option Addr) (len cap : Nat) (da : Option Addr) (dc : Nat) (D : Nat → ByteArray) (w : World) (hD : StrArr w da 1 D) :
    Calls Trym.prog 24 #[bnd ⟨#[111, 110, 101]⟩ a len cap da 1 dc] w fun e w' => e = .returned (.iface 9 (.string (D 0))) ∧ Below w.heap.size w w' := by
  have hal : Below w.heap.size w (w.alloc (.cells #[.string ⟨#[111, 110, 101]⟩, .slice a len cap, .slice da 1 dc] 41)) := (Below.refl _ _).alloc (Nat.le_refl _) _
  obtain ⟨b, off, rfl, hbl, hc0⟩ := (hD.below hal (Nat.le_refl _)).at' (by omega)
  have g0 := hc0 0 (by omega)
  rw [Nat.add_zero] at g0
  clear hc0
  go_enter Trym.func24, Trym.ntmps24
  go_wp2
  go_ret
  exact ⟨rfl, hal⟩

set_option maxHeartbeats 1000000 in
theorem defaultAny_any (a : Option Addr) (len cap : Nat) (da : Option Addr) (dl dc : Nat) (w : World) :
    Calls Trym.prog 24 #[bnd ⟨#[97, 110, 121]⟩ a len cap da dl dc] w fun e w' => e = .returned (.iface 22 (.slice da dl dc)) ∧ Below w.heap.size w w' := by
  go_enter Trym.func24, Trym.ntmps24
  go_wp2
  go_ret
  exact ⟨rfl, (Below.refl _ _).alloc (Nat.le_refl _) _⟩
end Go.Proofs.Qxb6616219aMods

import Derived.Test.Qxb6616219aModsAdmits
namespace Go.Proofs.Qxb6616219aMods
open Go.ChangeShapes Go.WideShapes Go.ChangeAt Go.RowKit

/-- What clamping a string under the pick one gives. -/
def pickOne (S : Nat → ByteArray) (len : Nat) (v d : ByteArray) : ByteArray := if hasB S len v = true then v else d
theorem pickOne_yes {S : Nat → ByteArray} {len : Nat} {v d : ByteArray} (h : hasB S len v = true) : pickOne S len v d = v := by simp [pickOne, h]
theorem pickOne_no {S : Nat → ByteArray} {len : Nat} {v d : ByteArray} (h : hasB S len v = false) : pickOne S len v d = d := by simp [pickOne, h]

set_option maxHeartbeats 1000000 in
theorem clampOne_any (a : Option Addr) (len cap : Nat) (S : Nat → ByteArray) (da : Option Addr) (dc : Nat) (D : Nat → ByteArray) (v : ByteArray) (w : World) (hS : StrArr w a len S) (hD : StrArr w da 1 D) (hA : Asc S len) (hsm : len ≤ 1048576) (hv : v.size ≤ maxLen) :
    Calls Trym.prog 20 #[bnd ⟨#[111, 110, 101]⟩ a len cap da 1 dc, .iface 9 (.string v)] w fun e w' => e = .returned (.iface 9 (.string (pickOne S len v (D 0)))) ∧ Below w.heap.size w w' := by
  have HA : Hid (Asc S len) := hA
  clear hA
  have hal : Below w.heap.size w (w.alloc (.cells #[.string ⟨#[111, 110, 101]⟩, .slice a len cap, .slice da 1 dc] 41)) := (Below.refl _ _).alloc (Nat.le_refl _) _
  go_enter Trym.func20, Trym.ntmps20
  go_wp2_with fail
  refine (admitsOne_any a len cap S da 1 dc v _ (hS.below hal (Nat.le_refl _)) HA.out hsm hv).mono ?_
  rintro e w1 ⟨rfl, hb1⟩
  have hbb : Below w.heap.size w w1 := hal.trans (hb1.mono hal.size)
  cases he : hasB S len v with
  | true =>
    have HP : Hid (pickOne S len v (D 0) = v) := pickOne_yes he
    go_wp2
    go_ret
    exact ⟨by rw [HP.out]; rfl, hbb⟩
  | false =>
    have HP : Hid (pickOne S len v (D 0) = D 0) := pickOne_no he
    obtain ⟨hc, hf⟩ := bcell hb1
    have c0 : w1.cell? ⟨w.heap.size, 0, none⟩ = some (.string ⟨#[111, 110, 101]⟩) := by rw [hc _ _ (by simp)]; simp
    have c1 : w1.cell? ⟨w.heap.size, 1, none⟩ = some (.slice a len cap) := by rw [hc _ _ (by simp)]; simp
    have c2 : w1.cell? ⟨w.heap.size, 2, none⟩ = some (.slice da 1 dc) := by rw [hc _ _ (by simp)]; simp
    clear hc hf
    go_wp2_with fail
    refine (defaultOne_any a len cap da dc D _ (hD.below hbb (Nat.le_refl _))).mono ?_
    rintro e w2 ⟨rfl, hb2⟩
    go_wp2
    go_ret
    exact ⟨by rw [HP.out]; rfl, hbb.trans (hb2.mono hbb.size)⟩

set_option maxHeartbeats 1000000 in
theorem enumOne_any (a : Option Addr) (len cap : Nat) (S : Nat → ByteArray) (da : Option Addr) (dc : Nat) (D : Nat → ByteArray) (v : ByteArray) (w : World) (hS : StrArr w a len S) (hD : StrArr w da 1 D) (hA : Asc S len) (hsm : len ≤ 1048576) (hv : v.size ≤ maxLen) :
    Calls Trym.prog 11 #[.slice a len cap, .slice da 1 dc, .string v] w fun e w' => e = .returned (.tuple #[.string (pickOne S len v (D 0)), .bool true]) ∧ Below w.heap.size w w' := by
  have t1 := ta_str
  go_enter Trym.func11, Trym.ntmps11
  go_wp2_with fail
  refine (clampOne_any a len cap S da dc D v _ hS hD hA hsm hv).mono ?_
  rintro e w1 ⟨rfl, hb1⟩
  go_wp2
  go_ret2
  exact ⟨rfl, hb1⟩

set_option maxHeartbeats 1000000 in
theorem clampAny_yes (a : Option Addr) (len cap : Nat) (S : Nat → ByteArray) (da : Option Addr) (dl dc : Nat) (va : Option Addr) (vl vc : Nat) (V : Nat → ByteArray) (w : World) (hS : StrArr w a len S) (hV : StrArr w va vl V) (hA : Asc S len) (hsm : len ≤ 1048576) (he : allB V vl S len = true) :
    Calls Trym.prog 20 #[bnd ⟨#[97, 110, 121]⟩ a len cap da dl dc, .iface 22 (.slice va vl vc)] w fun e w' => e = .returned (.iface 22 (.slice va vl vc)) ∧ Below w.heap.size w w' := by
  have HA : Hid (Asc S len) := hA
  clear hA
  have hal : Below w.heap.size w (w.alloc (.cells #[.string ⟨#[97, 110, 121]⟩, .slice a len cap, .slice da dl dc] 41)) := (Below.refl _ _).alloc (Nat.le_refl _) _
  go_enter Trym.func20, Trym.ntmps20
  go_wp2_with fail
  refine (admitsAny_any a len cap S da dl dc va vl vc V _ (hS.below hal (Nat.le_refl _)) (hV.below hal (Nat.le_refl _)) HA.out hsm).mono ?_
  rintro e w1 ⟨rfl, hb1⟩
  have hbb : Below w.heap.size w w1 := hal.trans (hb1.mono hal.size)
  go_wp2
  go_ret
  exact ⟨rfl, hbb⟩

set_option maxHeartbeats 1000000 in
theorem clampAny_no (a : Option Addr) (len cap : Nat) (S : Nat → ByteArray) (da : Option Addr) (dl dc : Nat) (va : Option Addr) (vl vc : Nat) (V : Nat → ByteArray) (w : World) (hS : StrArr w a len S) (hV : StrArr w va vl V) (hA : Asc S len) (hsm : len ≤ 1048576) (he : allB V vl S len = false) :
    Calls Trym.prog 20 #[bnd ⟨#[97, 110, 121]⟩ a len cap da dl dc, .iface 22 (.slice va vl vc)] w fun e w' => e = .returned (.iface 22 (.slice da dl dc)) ∧ Below w.heap.size w w' := by
  have HA : Hid (Asc S len) := hA
  clear hA
  have hal : Below w.heap.size w (w.alloc (.cells #[.string ⟨#[97, 110, 121]⟩, .slice a len cap, .slice da dl dc] 41)) := (Below.refl _ _).alloc (Nat.le_refl _) _
  go_enter Trym.func20, Trym.ntmps20
  go_wp2_with fail
  refine (admitsAny_any a len cap S da dl dc va vl vc V _ (hS.below hal (Nat.le_refl _)) (hV.below hal (Nat.le_refl _)) HA.out hsm).mono ?_
  rintro e w1 ⟨rfl, hb1⟩
  have hbb : Below w.heap.size w w1 := hal.trans (hb1.mono hal.size)
  obtain ⟨hc, hf⟩ := bcell hb1
  have c0 : w1.cell? ⟨w.heap.size, 0, none⟩ = some (.string ⟨#[97, 110, 121]⟩) := by rw [hc _ _ (by simp)]; simp
  have c1 : w1.cell? ⟨w.heap.size, 1, none⟩ = some (.slice a len cap) := by rw [hc _ _ (by simp)]; simp
  have c2 : w1.cell? ⟨w.heap.size, 2, none⟩ = some (.slice da dl dc) := by rw [hc _ _ (by simp)]; simp
  clear hc hf
  go_wp2_with fail
  refine (defaultAny_any a len cap da dl dc _).mono ?_
  rintro e w2 ⟨rfl, hb2⟩
  go_wp2
  go_ret
  exact ⟨rfl, hbb.trans (hb2.mono hbb.size)⟩

set_option maxHeartbeats 1000000 in
theorem enumAny_yes (a : Option Addr) (len cap : Nat) (S : Nat → ByteArray) (da : Option Addr) (dl dc : Nat) (va : Option Addr) (vl vc : Nat) (V : Nat → ByteArray) (w : World) (hS : StrArr w a len S) (hV : StrArr w va vl V) (hA : Asc S len) (hsm : len ≤ 1048576) (he : allB V vl S len = true) :
    Calls Trym.prog 14 #[.slice a len cap, .slice da dl dc, .slice va vl vc] w fun e w' => e = .returned (.tuple #[.slice va vl vc, .bool true]) ∧ Below w.heap.size w w' := by
  have t1 := ta_sl
  go_enter Trym.func14, Trym.ntmps14
  go_wp2_with fail
  refine (clampAny_yes a len cap S da dl dc va vl vc V _ hS hV hA hsm he).mono ?_
  rintro e w1 ⟨rfl, hb1⟩
  go_wp2
  go_ret2
  exact ⟨rfl, hb1⟩

set_option maxHeartbeats 1000000 in
theorem enumAny_no (a : Option Addr) (len cap : Nat) (S : Nat → ByteArray) (da : Option Addr) (dl dc : Nat) (va : Option Addr) (vl vc : Nat) (V : Nat → ByteArray) (w : World) (hS : StrArr w a len S) (hV : StrArr w va vl V) (hA : Asc S len) (hsm : len ≤ 1048576) (he : allB V vl S len = false) :
    Calls Trym.prog 14 #[.slice a len cap, .slice da dl dc, .slice va vl vc] w fun e w' => e = .returned (.tuple #[.slice da dl dc, .bool true]) ∧ Below w.heap.size w w' := by
  have t1 := ta_sl
  go_enter Trym.func14, Trym.ntmps14
  go_wp2_with fail
  refine (clampAny_no a len cap S da dl dc va vl vc V _ hS hV hA hsm he).mono ?_
  rintro e w1 ⟨rfl, hb1⟩
  go_wp2
  go_ret2
  exact ⟨rfl, hb1⟩
end Go.Proofs.Qxb6616219aMods

import Derived.Test.Qxb6616219aModsAsc
import Derived.Deep.RegionHeld3
namespace Go.Proofs.Qxb6616219aMods
open Go.ChangeShapes Go.WideShapes Go.ChangeAt Go.RowKit

/-- zzValidEnum's answer for the pick one: if it is yes .. -/
def OnePost (S : Nat → ByteArray) (len : Nat) (D : Nat → ByteArray) (dl : Nat) (e : Ending) : Prop := ∃ B : Bool, e = .returned (.bool B) ∧ (B = true → 0 < len ∧ Asc S len ∧ dl = 1 ∧ hasB S len (D 0) = true)
def AnyPost (S : Nat → ByteArray) (len : Nat) (D : Nat → ByteArray) (dl : Nat) (e : Ending) : Prop := ∃ B : Bool, e = .returned (.bool B) ∧ (B = true → 0 < len ∧ Asc S len ∧ allB D dl S len = true)

set_option maxHeartbeats 400000 in
theorem validOne_any (a : Option Addr) (len cap : Nat) (S : Nat → ByteArray) (da : Option Addr) (dl dc : Nat) (D : Nat → ByteArray) (w : World) (hS : StrArr w a len S) (hD : StrArr w da dl D) :
    Calls Trym.prog 9 #[.string ⟨#[111, 110, 101]⟩, .slice a len cap, .slice da dl dc] w fun e w' => OnePost S len D dl e ∧ Below w.heap.size w w' := by
  have hm := hS.small
  have hm2 := hD.small
  unfold maxLen at hm hm2
  by_cases h0 : len = 0
  · have h0' : ((len : Int) == 0) = true := by simp [h0]
    go_enter Trym.func9, Trym.ntmps9
    go_wp2
    go_ret
    exact ⟨⟨_, rfl, fun h => by cases h⟩, Below.refl _ _⟩
  · have h0' : ((len : Int) == 0) = false := by simp [h0]
    go_enter Trym.func9, Trym.ntmps9
    go_wp2_with fail
    refine (ascending_any a len cap S _ hS).mono ?_
    rintro e w1 ⟨⟨B, rfl, hB⟩, hb1⟩
    cases B with
    | false =>
      go_wp2
      go_ret
      exact ⟨⟨_, rfl, fun h => by cases h⟩, hb1⟩
    | true =>
      have hA := hB rfl
      have HA : Hid (Asc S len) := hA
      clear hA hB
      by_cases h1 : dl = 1
      · have h1' : ((dl : Int) == 1) = true := by simp [h1]
        obtain ⟨b, off, rfl, hbl, hc0⟩ := (hD.below hb1 (Nat.le_refl _)).at' (by omega)
        have g0 : w1.cell? ⟨b, off, none⟩ = some (.string (D 0)) := by simpa using hc0 0 (by omega)
        have hl0 : (0 : Int) < (dl : Int) := by omega
        clear hc0
        go_wp2_with fail
        refine (has_any a len cap S (D 0) _ (hS.below hb1 (Nat.le_refl _))).mono ?_
        rintro e w2 ⟨rfl, rfl⟩
        go_wp2
        go_ret
        exact ⟨⟨_, rfl, fun h => ⟨by omega, HA.out, h1, h⟩⟩, hb1⟩
      · have h1' : ((dl : Int) == 1) = false := by simp; omega
        go_wp2
        go_ret
        exact ⟨⟨_, rfl, fun h => by cases h⟩, hb1⟩

set_option maxHeartbeats 400000 in
theorem validAny_any (a : Option Addr) (len cap : Nat) (S : Nat → ByteArray) (da : Option Addr) (dl dc : Nat) (D : Nat → ByteArray) (w : World) (hS : StrArr w a len S) (hD : StrArr w da dl D) :
    Calls Trym.prog 9 #[.string ⟨#[97, 110, 121]⟩, .slice a len cap, .slice da dl dc] w fun e w' => AnyPost S len D dl e ∧ Below w.heap.size w w' := by
  have hm := hS.small
  have hm2 := hD.small
  unfold maxLen at hm hm2
  by_cases h0 : len = 0
  · have h0' : ((len : Int) == 0) = true := by simp [h0]
    go_enter Trym.func9, Trym.ntmps9
    go_wp2
    go_ret
    exact ⟨⟨_, rfl, fun h => by cases h⟩, Below.refl _ _⟩
  · have h0' : ((len : Int) == 0) = false := by simp [h0]
    go_enter Trym.func9, Trym.ntmps9
    go_wp2_with fail
    refine (ascending_any a len cap S _ hS).mono ?_
    rintro e w1 ⟨⟨B, rfl, hB⟩, hb1⟩
    cases B with
    | false =>
      go_wp2
      go_ret
      exact ⟨⟨_, rfl, fun h => by cases h⟩, hb1⟩
    | true =>
      have hA := hB rfl
      have HA : Hid (Asc S len) := hA
      clear hA hB
      go_wp2_with fail
      refine (ascending_any da dl dc D _ (hD.below hb1 (Nat.le_refl _))).mono ?_
      rintro e w2 ⟨⟨B, rfl, hB⟩, hb2⟩
      cases B with
      | false =>
        go_wp2
        go_ret
        exact ⟨⟨_, rfl, fun h => by cases h⟩, hb1.trans (hb2.mono hb1.size)⟩
      | true =>
        clear hB
        go_wp2_with fail
        refine (allIn_any da dl dc D a len cap S _ ((hD.below hb1 (Nat.le_refl _)).below hb2 (Nat.le_refl _)) ((hS.below hb1 (Nat.le_refl _)).below hb2 (Nat.le_refl _))).mono ?_
        rintro e w3 ⟨rfl, rfl⟩
        go_wp2
        go_ret
        exact ⟨⟨_, rfl, fun h => ⟨by omega, HA.out, h⟩⟩, hb1.trans (hb2.mono hb1.size)⟩
end Go.Proofs.Qxb6616219aMods

import Derived.Test.Qxb6616219aModsLeaves
namespace Go.Proofs.Qxb6616219aMods
open Go.ChangeShapes Go.WideShapes Go.ChangeAt Go.RowKit

set_option maxHeartbeats 400000 in
theorem cmpLess_any (x y : ByteArray) (w : World) : Calls Trym.prog 32 #[.string x, .string y] w fun e w' => e = .returned (.bool (less x y)) ∧ w' = w := by
  go_enter Trym.func32, Trym.ntmps32
  go_wp2
  go_ret
  exact ⟨rfl, rfl⟩

/-- What the binary search finds. -/
def FoundPost (S : Nat → ByteArray) (n : Nat) (x : ByteArray) (e : Ending) : Prop := ∃ i : Int, e = .returned (.tuple #[.int .i64 i, .bool (hasB S n x)])

set_option maxHeartbeats 1000000 in
theorem search_any (a : Option Addr) (n c : Nat) (S : Nat → ByteArray) (x : ByteArray) (w : World) (h : StrArr w a n S) (hA : Asc S n) (hsm : n ≤ 1048576) :
    Calls Trym.prog 31 #[.slice a n c, .string x] w fun e w' => FoundPost S n x e ∧ w' = w := by
  have HA : Hid (Asc S n) := hA
  clear hA
  go_enter Trym.func31, Trym.ntmps31
  go_wp2
  go_loop [7, 8] (fun s7 s8 => ∃ lo hi : Nat, s7 = .int .i64 lo ∧ s8 = .int .i64 hi ∧ lo ≤ hi ∧ hi ≤ n ∧ Halved S n x lo hi) (fun s7 s8 => (intOf s8).toNat - (intOf s7).toNat)
  case atStart => exact ⟨0, n, rfl, rfl, Nat.zero_le _, Nat.le_refl _, halved_start S n x⟩
  case round =>
    obtain ⟨lo, hi, rfl, rfl, hlh, hin, hH⟩ := hrel
    by_cases hlt : lo < hi
    · obtain ⟨b, off, rfl, hbl, hc0⟩ := h.at' (by omega)
      have cm : w.cell? ⟨b, off + (lo + hi) / 2, none⟩ = some (.string (S ((lo + hi) / 2))) := hc0 _ (by omega)
      clear hc0
      cases hl : less (S ((lo + hi) / 2)) x with
      | true =>
        have H1 : Hid (Halved S n x ((lo + hi) / 2 + 1) hi) := halved_up hH HA.out (by omega) hl
        go_wp2_with (go_at_call 32; refine (cmpLess_any _ _ _).mono ?_; rintro e w' ⟨rfl, rfl⟩)
        go_round
        case rel => exact ⟨(lo + hi) / 2 + 1, hi, by go_num, rfl, by omega, hin, H1.out⟩
        case measure => simp [intOf]; omega
      | false =>
        have H1 : Hid (Halved S n x lo ((lo + hi) / 2)) := halved_down hH HA.out hl
        go_wp2_with (go_at_call 32; refine (cmpLess_any _ _ _).mono ?_; rintro e w' ⟨rfl, rfl⟩)
        go_round
        case rel => exact ⟨lo, (lo + hi) / 2, rfl, by go_num, by omega, by omega, H1.out⟩
        case measure => simp [intOf]; omega
    · have hh : lo = hi := by omega
      subst hh
      by_cases hn : lo < n
      · obtain ⟨b, off, rfl, hbl, hc0⟩ := h.at' (by omega)
        have cm : w.cell? ⟨b, off + lo, none⟩ = some (.string (S lo)) := hc0 _ (by omega)
        clear hc0
        cases he : ((S lo).toList == x.toList) with
        | true =>
          have hf : Hid (hasB S n x = true) := hasB_hit hn (str_eq he)
          go_wp2
          go_ret2
          exact ⟨⟨_, by rw [hf.out]; rfl⟩, rfl⟩
        | false =>
          have hf : Hid (hasB S n x = false) := halved_miss hH HA.out hn (str_ne he)
          go_wp2
          go_ret2
          exact ⟨⟨_, by rw [hf.out]; rfl⟩, rfl⟩
      · have hf : Hid (hasB S n x = false) := halved_out hH (by omega)
        have hn' : decide ((lo : Int) < (n : Int)) = false := by simp; omega
        go_wp2
        go_ret2
        exact ⟨⟨_, by rw [hf.out]; rfl⟩, rfl⟩

set_option maxHeartbeats 400000 in
theorem allows_any (p : ByteArray) (a : Option Addr) (len cap : Nat) (S : Nat → ByteArray) (dv : Value) (da : Option Addr) (dl dc : Nat) (hdv : dv = .slice da dl dc) (m : ByteArray) (w : World) (hS : StrArr w a len S) (hA : Asc S len) (hsm : len ≤ 1048576) :
    Calls Trym.prog 30 #[.agg #[.string p, .slice a len cap, dv], .string m] w fun e w' => e = .returned (.bool (hasB S len m)) ∧ Below w.heap.size w w' := by
  subst hdv
  have hal : Below w.heap.size w (w.alloc (.cells #[.string p, .slice a len cap, .slice da dl dc] 41)) := (Below.refl _ _).alloc (Nat.le_refl _) _
  go_enter Trym.func30, Trym.ntmps30
  go_wp2_with fail
  refine (search_any a len cap S m _ (hS.below hal (Nat.le_refl _)) hA hsm).mono ?_
  rintro e w1 ⟨⟨i, rfl⟩, hw⟩
  have hw' := hw.symm
  subst hw'
  go_wp2
  go_ret
  exact ⟨rfl, hal⟩
end Go.Proofs.Qxb6616219aMods

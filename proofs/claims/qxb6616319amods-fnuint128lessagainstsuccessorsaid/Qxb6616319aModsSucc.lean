import Derived.Test.Qxb6616319aModsRows
import Derived.WalkKit
import Derived.ProofKit
import Derived.OpenShut
namespace Go.Proofs.Qxb6616319aMods
open Go.ChangeShapes Go.WideShapes Go.ChangeAt Go.RowKit

/-- x < y, two words each. -/
def lt128 (xh xl yh yl : Int) : Bool := decide (xh < yh ∨ (xh = yh ∧ xl < yl))
theorem lt128_yes {xh xl yh yl : Int} (h : xh < yh ∨ (xh = yh ∧ xl < yl)) : lt128 xh xl yh yl = true := by simp [lt128, h]
theorem lt128_no {xh xl yh yl : Int} (h : ¬ (xh < yh ∨ (xh = yh ∧ xl < yl))) : lt128 xh xl yh yl = false := by simp only [lt128, decide_eq_false_iff_not]; exact h

set_option maxHeartbeats 400000 in
theorem less_any (xh xl yh yl : Int) (w : World) :
    Calls Trym.prog 6 #[.int .u64 xh, .int .u64 xl, .int .u64 yh, .int .u64 yl] w fun e w' => e = .returned (.bool (lt128 xh xl yh yl)) ∧ Below w.heap.size w w' := by
  by_cases h1 : xh < yh
  · have hl : Hid (lt128 xh xl yh yl = true) := lt128_yes (.inl h1)
    go_enter Trym.func6, Trym.ntmps6
    go_wp2
    go_ret
    exact ⟨by rw [hl.out]; rfl, ((Below.refl _ _).alloc (Nat.le_refl _) _).alloc (by simp) _⟩
  · have h1' : decide (xh < yh) = false := by simpa using h1
    by_cases h2 : xh = yh
    · subst h2
      by_cases h3 : xl < yl
      · have hl : Hid (lt128 xh xl xh yl = true) := lt128_yes (.inr ⟨rfl, h3⟩)
        go_enter Trym.func6, Trym.ntmps6
        go_wp2
        go_ret
        exact ⟨by rw [hl.out]; rfl, ((Below.refl _ _).alloc (Nat.le_refl _) _).alloc (by simp) _⟩
      · have hl : Hid (lt128 xh xl xh yl = false) := lt128_no (by omega)
        have h3' : decide (xl < yl) = false := by simpa using h3
        go_enter Trym.func6, Trym.ntmps6
        go_wp2
        go_ret
        exact ⟨by rw [hl.out]; rfl, ((Below.refl _ _).alloc (Nat.le_refl _) _).alloc (by simp) _⟩
    · have hl : Hid (lt128 xh xl yh yl = false) := lt128_no (by omega)
      have h2' : (xh == yh) = false := by simpa using h2
      go_enter Trym.func6, Trym.ntmps6
      go_wp2
      go_ret
      exact ⟨by rw [hl.out]; rfl, ((Below.refl _ _).alloc (Nat.le_refl _) _).alloc (by simp) _⟩

/-- THE PLAIN LAW: against the successor. -/
theorem succ_lo (a0 a1 a2 a3 : Int) : lt128 a0 a1 a0 (a1 + 1) = true ∧ (lt128 a0 a1 a2 a3 != lt128 a2 a3 a0 (a1 + 1)) = true := by
  refine ⟨lt128_yes (.inr ⟨rfl, by omega⟩), ?_⟩
  by_cases h : a0 < a2 ∨ (a0 = a2 ∧ a1 < a3)
  · rw [lt128_yes h, lt128_no (by omega)]; rfl
  · rw [lt128_no h, lt128_yes (by omega)]; rfl
theorem succ_hi (a0 a1 a2 a3 : Int) (h1 : a3 ≤ a1) (h3 : 0 ≤ a3) : lt128 a0 a1 (a0 + 1) 0 = true ∧ (lt128 a0 a1 a2 a3 != lt128 a2 a3 (a0 + 1) 0) = true := by
  refine ⟨lt128_yes (.inl (by omega)), ?_⟩
  by_cases h : a0 < a2 ∨ (a0 = a2 ∧ a1 < a3)
  · rw [lt128_yes h, lt128_no (by omega)]; rfl
  · rw [lt128_no h, lt128_yes (by omega)]; rfl

set_option maxHeartbeats 1000000 in
theorem walk4_a (a1 a2 a3 : Int) (b1 : 0 ≤ a1) (c1 : a1 < 18446744073709551615) (w : World) :
    Calls Trym.prog 4 #[.int .u64 18446744073709551615, .int .u64 a1, .int .u64 a2, .int .u64 a3] w fun e w' => e = .returned (.bool true) ∧ Below w.heap.size w w' := by
  obtain ⟨e1, e2⟩ := succ_lo 18446744073709551615 a1 a2 a3
  have n1 : (a1 == 18446744073709551615) = false := by simp; omega
  have n2 : (a1 + 1 == 0) = false := by simp; omega
  go_enter Trym.func4, Trym.ntmps4
  go_wp2_with fail
  refine (less_any _ _ _ _ _).mono ?_
  rintro e w1 ⟨rfl, hg1⟩
  go_wp2_with fail
  refine (less_any _ _ _ _ _).mono ?_
  rintro e w2 ⟨rfl, hg2⟩
  go_wp2_with fail
  refine (less_any _ _ _ _ _).mono ?_
  rintro e w3 ⟨rfl, hg3⟩
  go_wp2
  go_ret
  exact ⟨congrArg (fun b => Ending.returned (.bool b)) e2, (hg1.trans (hg2.mono hg1.size)).trans (hg3.mono (Nat.le_trans hg1.size hg2.size))⟩

set_option maxHeartbeats 1000000 in
theorem walk4_b (a0 a1 a2 a3 : Int) (b0 : 0 ≤ a0) (c0 : a0 < 18446744073709551615) (b1 : 0 ≤ a1) (c1 : a1 < 18446744073709551615) (w : World) :
    Calls Trym.prog 4 #[.int .u64 a0, .int .u64 a1, .int .u64 a2, .int .u64 a3] w fun e w' => e = .returned (.bool true) ∧ Below w.heap.size w w' := by
  obtain ⟨e1, e2⟩ := succ_lo a0 a1 a2 a3
  have n0 : (a0 == 18446744073709551615) = false := by simp; omega
  have n2 : (a1 + 1 == 0) = false := by simp; omega
  go_enter Trym.func4, Trym.ntmps4
  go_wp2_with fail
  refine (less_any _ _ _ _ _).mono ?_
  rintro e w1 ⟨rfl, hg1⟩
  go_wp2_with fail
  refine (less_any _ _ _ _ _).mono ?_
  rintro e w2 ⟨rfl, hg2⟩
  go_wp2_with fail
  refine (less_any _ _ _ _ _).mono ?_
  rintro e w3 ⟨rfl, hg3⟩
  go_wp2
  go_ret
  exact ⟨congrArg (fun b => Ending.returned (.bool b)) e2, (hg1.trans (hg2.mono hg1.size)).trans (hg3.mono (Nat.le_trans hg1.size hg2.size))⟩

set_option maxHeartbeats 1000000 in
theorem walk4_c (a0 a2 a3 : Int) (b0 : 0 ≤ a0) (c0 : a0 < 18446744073709551615) (b3 : 0 ≤ a3) (c3 : a3 ≤ 18446744073709551615) (w : World) :
    Calls Trym.prog 4 #[.int .u64 a0, .int .u64 18446744073709551615, .int .u64 a2, .int .u64 a3] w fun e w' => e = .returned (.bool true) ∧ Below w.heap.size w w' := by
  obtain ⟨e1, e2⟩ := succ_hi a0 18446744073709551615 a2 a3 c3 b3
  have n0 : (a0 == 18446744073709551615) = false := by simp; omega
  have hwr : IntKind.u64.wrap 18446744073709551616 = 0 := by rw [IntKind.wrap_u64]; rfl
  go_enter Trym.func4, Trym.ntmps4
  go_wp2_with fail
  refine (less_any _ _ _ _ _).mono ?_
  rintro e w1 ⟨rfl, hg1⟩
  go_wp2_with fail
  refine (less_any _ _ _ _ _).mono ?_
  rintro e w2 ⟨rfl, hg2⟩
  go_wp2_with fail
  refine (less_any _ _ _ _ _).mono ?_
  rintro e w3 ⟨rfl, hg3⟩
  go_wp2
  go_ret
  exact ⟨congrArg (fun b => Ending.returned (.bool b)) e2, (hg1.trans (hg2.mono hg1.size)).trans (hg3.mono (Nat.le_trans hg1.size hg2.size))⟩

theorem walk4 (a0 a1 a2 a3 : Int) (w0 : (Lit.int .u64 a0).wf = true) (w1 : (Lit.int .u64 a1).wf = true) (w3 : (Lit.int .u64 a3).wf = true) (w : World) :
    Calls Trym.prog 4 #[.int .u64 a0, .int .u64 a1, .int .u64 a2, .int .u64 a3] w fun e w' => e = .returned (.bool true) ∧ Below w.heap.size w w' := by
  obtain ⟨b0, c0⟩ := bounds_u64 w0
  obtain ⟨b1, c1⟩ := bounds_u64 w1
  obtain ⟨b3, c3⟩ := bounds_u64 w3
  clear w0 w1 w3
  by_cases hh : a0 = 18446744073709551615
  · subst hh
    by_cases hl : a1 = 18446744073709551615
    · subst hl
      go_enter Trym.func4, Trym.ntmps4
      go_wp2
      go_ret
      exact ⟨rfl, Below.refl _ _⟩
    · exact walk4_a a1 a2 a3 b1 (by omega) w
  · by_cases hl : a1 = 18446744073709551615
    · subst hl
      exact walk4_c a0 a2 a3 b0 (by omega) b3 c3 w
    · exact walk4_b a0 a1 a2 a3 b0 (by omega) b1 (by omega) w

theorem walk4' (a0 a1 a2 a3 : Int) (w : World) (w0 : (Lit.int .u64 a0).wf = true) (w1 : (Lit.int .u64 a1).wf = true) (_w2 : (Lit.int .u64 a2).wf = true) (w3 : (Lit.int .u64 a3).wf = true) :
    Calls Trym.prog 4 #[.int .u64 a0, .int .u64 a1, .int .u64 a2, .int .u64 a3] w fun e w' => e = .returned (.bool true) ∧ Below w.heap.size w w' := walk4 a0 a1 a2 a3 w0 w1 w3 w
end Go.Proofs.Qxb6616319aMods

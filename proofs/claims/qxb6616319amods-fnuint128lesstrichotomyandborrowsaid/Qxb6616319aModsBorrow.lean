import Derived.Test.Qxb6616319aModsSucc
namespace Go.Proofs.Qxb6616319aMods
open Go.ChangeShapes Go.WideShapes Go.ChangeAt Go.RowKit

/-- The borrow out of a word's subtraction by the carry-chain formula, as the walk leaves it. -/
abbrev bterm (x y d : Int) : Int := bits .or .u64 (bits .and .u64 (bits .xor .u64 IntKind.u64.max x) y) (bits .and .u64 (bits .xor .u64 IntKind.u64.max (bits .xor .u64 x y)) d) / 9223372036854775808

theorem top_of (n : Nat) (h : n < 18446744073709551616) : n / 9223372036854775808 = if n.testBit 63 = true then 1 else 0 := by
  have h63 : n.testBit 63 = decide (n / 2 ^ 63 % 2 = 1) := Nat.testBit_eq_decide_div_mod_eq
  rw [h63]
  by_cases h1 : n < 9223372036854775808
  · have e : n / 2 ^ 63 = 0 := by omega
    rw [e]; simp
  · have e : n / 2 ^ 63 = 1 := by omega
    rw [e]; simp

theorem bit_of (n : Nat) (h : n < 18446744073709551616) : n.testBit 63 = decide (9223372036854775808 ≤ n) := by
  have h63 : n.testBit 63 = decide (n / 2 ^ 63 % 2 = 1) := Nat.testBit_eq_decide_div_mod_eq
  rw [h63]
  by_cases h1 : n < 9223372036854775808
  · have e : n / 2 ^ 63 = 0 := by omega
    rw [e]; simp; omega
  · have e : n / 2 ^ 63 = 1 := by omega
    rw [e]; simp; omega

theorem bterm_nat (x y d : Nat) (hx : x < 18446744073709551616) (hy : y < 18446744073709551616) (hd : d < 18446744073709551616) :
    bterm (x : Int) (y : Int) (d : Int) = if (x < 9223372036854775808 ∧ 9223372036854775808 ≤ y) ∨ ((9223372036854775808 ≤ x ↔ 9223372036854775808 ≤ y) ∧ 9223372036854775808 ≤ d) then 1 else 0 := by
  have hm : IntKind.u64.max = ((18446744073709551615 : Nat) : Int) := by decide
  have hx1 : 18446744073709551615 ^^^ x < 2 ^ 64 := Nat.xor_lt_two_pow (by decide) (by omega)
  have hx2 : x ^^^ y < 2 ^ 64 := Nat.xor_lt_two_pow (by omega) (by omega)
  have hx3 : 18446744073709551615 ^^^ (x ^^^ y) < 2 ^ 64 := Nat.xor_lt_two_pow (by decide) hx2
  have ha1 : (18446744073709551615 ^^^ x) &&& y < 2 ^ 64 := Nat.lt_of_le_of_lt Nat.and_le_left hx1
  have ha2 : (18446744073709551615 ^^^ (x ^^^ y)) &&& d < 2 ^ 64 := Nat.lt_of_le_of_lt Nat.and_le_left hx3
  have ho : (18446744073709551615 ^^^ x) &&& y ||| (18446744073709551615 ^^^ (x ^^^ y)) &&& d < 2 ^ 64 := Nat.or_lt_two_pow ha1 ha2
  unfold bterm
  rw [hm, u64_xor_nat _ x (by decide) hx, u64_and_nat _ y (by omega) hy, u64_xor_nat x y hx hy, u64_xor_nat _ (x ^^^ y) (by decide) (by omega), u64_and_nat _ d (by omega) hd, u64_or_nat _ _ (by omega) (by omega)]
  have e := top_of _ (show (18446744073709551615 ^^^ x) &&& y ||| (18446744073709551615 ^^^ (x ^^^ y)) &&& d < 18446744073709551616 from ho)
  have et : ((18446744073709551615 ^^^ x) &&& y ||| (18446744073709551615 ^^^ (x ^^^ y)) &&& d).testBit 63 = ((!x.testBit 63) && y.testBit 63 || ((x.testBit 63 == y.testBit 63) && d.testBit 63)) := by
    rw [Nat.testBit_or, Nat.testBit_and, Nat.testBit_and, Nat.testBit_xor, Nat.testBit_xor, Nat.testBit_xor, show (18446744073709551615 : Nat).testBit 63 = true from by decide]
    cases x.testBit 63 <;> cases y.testBit 63 <;> cases d.testBit 63 <;> rfl
  rw [et, bit_of x hx, bit_of y hy, bit_of d hd] at e
  have e' : (((((18446744073709551615 ^^^ x) &&& y ||| (18446744073709551615 ^^^ (x ^^^ y)) &&& d : Nat)) : Int) / 9223372036854775808) = ((((18446744073709551615 ^^^ x) &&& y ||| (18446744073709551615 ^^^ (x ^^^ y)) &&& d) / 9223372036854775808 : Nat) : Int) := by omega
  rw [e', e]
  by_cases p : 9223372036854775808 ≤ x <;> by_cases q : 9223372036854775808 ≤ y <;> by_cases r : 9223372036854775808 ≤ d <;> simp [p, q, r] <;> omega

theorem bterm_int (x y d : Int) (hx0 : 0 ≤ x) (hx : x < 18446744073709551616) (hy0 : 0 ≤ y) (hy : y < 18446744073709551616) (hd0 : 0 ≤ d) (hd : d < 18446744073709551616) :
    bterm x y d = if (x < 9223372036854775808 ∧ 9223372036854775808 ≤ y) ∨ ((9223372036854775808 ≤ x ↔ 9223372036854775808 ≤ y) ∧ 9223372036854775808 ≤ d) then 1 else 0 := by
  obtain ⟨x, rfl⟩ := Int.eq_ofNat_of_zero_le hx0
  obtain ⟨y, rfl⟩ := Int.eq_ofNat_of_zero_le hy0
  obtain ⟨d, rfl⟩ := Int.eq_ofNat_of_zero_le hd0
  rw [bterm_nat x y d (by omega) (by omega) (by omega)]
  by_cases p : 9223372036854775808 ≤ x <;> by_cases q : 9223372036854775808 ≤ y <;> by_cases r : 9223372036854775808 ≤ d <;> simp [p, q, r] <;> omega

/-- A word's subtraction with a borrow that comes in: the formula gives the borrow that goes out. -/
theorem borrow_of (x y c d : Int) (hx0 : 0 ≤ x) (hx : x < 18446744073709551616) (hy0 : 0 ≤ y) (hy : y < 18446744073709551616) (hc : c = 0 ∨ c = 1) (hd : d = (x - y - c) % 18446744073709551616) :
    bterm x y d = if x < y + c then 1 else 0 := by
  rw [bterm_int x y d hx0 hx hy0 hy (by omega) (by omega)]
  by_cases h : x < y + c
  · rw [if_pos h, if_pos (by omega)]
  · rw [if_neg h, if_neg (by omega)]

/-- THE PLAIN LAW: the borrow out of both words is 'less'. -/
theorem borrow128 (a0 a1 a2 a3 : Int) (b0 : 0 ≤ a0) (c0 : a0 ≤ 18446744073709551615) (b1 : 0 ≤ a1) (c1 : a1 ≤ 18446744073709551615) (b2 : 0 ≤ a2) (c2 : a2 ≤ 18446744073709551615) (b3 : 0 ≤ a3) (c3 : a3 ≤ 18446744073709551615) :
    (bterm a0 a2 (IntKind.u64.wrap (IntKind.u64.wrap (a0 - a2) - bterm a1 a3 (IntKind.u64.wrap (a1 - a3)))) == 1) = lt128 a0 a1 a2 a3 := by
  have e1 : bterm a1 a3 (IntKind.u64.wrap (a1 - a3)) = if a1 < a3 + 0 then 1 else 0 := borrow_of a1 a3 0 _ b1 (by omega) b3 (by omega) (.inl rfl) (by rw [IntKind.wrap_u64, Int.sub_zero])
  rw [e1, Int.add_zero]
  by_cases h : a1 < a3
  · rw [if_pos h, borrow_of a0 a2 1 _ b0 (by omega) b2 (by omega) (.inr rfl) (by rw [IntKind.wrap_u64, IntKind.wrap_u64]; omega)]
    by_cases h2 : a0 < a2 + 1
    · rw [if_pos h2, lt128_yes (by omega)]; rfl
    · rw [if_neg h2, lt128_no (by omega)]; rfl
  · rw [if_neg h, borrow_of a0 a2 0 _ b0 (by omega) b2 (by omega) (.inl rfl) (by rw [IntKind.wrap_u64, IntKind.wrap_u64]; omega)]
    by_cases h2 : a0 < a2 + 0
    · rw [if_pos h2, lt128_yes (by omega)]; rfl
    · rw [if_neg h2, lt128_no (by omega)]; rfl

set_option maxHeartbeats 1000000 in
theorem w_lt0 (a0 a1 a2 a3 : Int) (HB : Hid ((bterm a0 a2 (IntKind.u64.wrap (IntKind.u64.wrap (a0 - a2) - bterm a1 a3 (IntKind.u64.wrap (a1 - a3)))) == 1) = true)) (w : World)
    (hlt : lt128 a0 a1 a2 a3 = true) (hgt : lt128 a2 a3 a0 a1 = false) (e0 : (a0 == a2) = false) :
    Calls Trym.prog 3 #[.int .u64 a0, .int .u64 a1, .int .u64 a2, .int .u64 a3] w fun e w' => e = .returned (.bool true) ∧ Below w.heap.size w w' := by
  go_enter Trym.func3, Trym.ntmps3
  go_wp2_with fail
  refine (less_any _ _ _ _ _).mono ?_
  rintro e w1 ⟨rfl, hg1⟩
  go_wp2_with fail
  refine (less_any _ _ _ _ _).mono ?_
  rintro e w2 ⟨rfl, hg2⟩
  go_wp2
  go_ret
  exact ⟨congrArg (fun b => Ending.returned (.bool b)) HB.out, hg1.trans (hg2.mono hg1.size)⟩

set_option maxHeartbeats 1000000 in
theorem w_lt1 (a0 a1 a2 a3 : Int) (HB : Hid ((bterm a0 a2 (IntKind.u64.wrap (IntKind.u64.wrap (a0 - a2) - bterm a1 a3 (IntKind.u64.wrap (a1 - a3)))) == 1) = true)) (w : World)
    (hlt : lt128 a0 a1 a2 a3 = true) (hgt : lt128 a2 a3 a0 a1 = false) (e0 : (a0 == a2) = true) (e1 : (a1 == a3) = false) :
    Calls Trym.prog 3 #[.int .u64 a0, .int .u64 a1, .int .u64 a2, .int .u64 a3] w fun e w' => e = .returned (.bool true) ∧ Below w.heap.size w w' := by
  go_enter Trym.func3, Trym.ntmps3
  go_wp2_with fail
  refine (less_any _ _ _ _ _).mono ?_
  rintro e w1 ⟨rfl, hg1⟩
  go_wp2_with fail
  refine (less_any _ _ _ _ _).mono ?_
  rintro e w2 ⟨rfl, hg2⟩
  go_wp2
  go_ret
  exact ⟨congrArg (fun b => Ending.returned (.bool b)) HB.out, hg1.trans (hg2.mono hg1.size)⟩

set_option maxHeartbeats 1000000 in
theorem w_gt0 (a0 a1 a2 a3 : Int) (HB : Hid ((bterm a0 a2 (IntKind.u64.wrap (IntKind.u64.wrap (a0 - a2) - bterm a1 a3 (IntKind.u64.wrap (a1 - a3)))) == 1) = false)) (w : World)
    (hlt : lt128 a0 a1 a2 a3 = false) (hgt : lt128 a2 a3 a0 a1 = true) (e0 : (a0 == a2) = false) :
    Calls Trym.prog 3 #[.int .u64 a0, .int .u64 a1, .int .u64 a2, .int .u64 a3] w fun e w' => e = .returned (.bool true) ∧ Below w.heap.size w w' := by
  go_enter Trym.func3, Trym.ntmps3
  go_wp2_with fail
  refine (less_any _ _ _ _ _).mono ?_
  rintro e w1 ⟨rfl, hg1⟩
  go_wp2_with fail
  refine (less_any _ _ _ _ _).mono ?_
  rintro e w2 ⟨rfl, hg2⟩
  go_wp2
  go_ret
  exact ⟨congrArg (fun b => Ending.returned (.bool !b)) HB.out, hg1.trans (hg2.mono hg1.size)⟩

set_option maxHeartbeats 1000000 in
theorem w_gt1 (a0 a1 a2 a3 : Int) (HB : Hid ((bterm a0 a2 (IntKind.u64.wrap (IntKind.u64.wrap (a0 - a2) - bterm a1 a3 (IntKind.u64.wrap (a1 - a3)))) == 1) = false)) (w : World)
    (hlt : lt128 a0 a1 a2 a3 = false) (hgt : lt128 a2 a3 a0 a1 = true) (e0 : (a0 == a2) = true) (e1 : (a1 == a3) = false) :
    Calls Trym.prog 3 #[.int .u64 a0, .int .u64 a1, .int .u64 a2, .int .u64 a3] w fun e w' => e = .returned (.bool true) ∧ Below w.heap.size w w' := by
  go_enter Trym.func3, Trym.ntmps3
  go_wp2_with fail
  refine (less_any _ _ _ _ _).mono ?_
  rintro e w1 ⟨rfl, hg1⟩
  go_wp2_with fail
  refine (less_any _ _ _ _ _).mono ?_
  rintro e w2 ⟨rfl, hg2⟩
  go_wp2
  go_ret
  exact ⟨congrArg (fun b => Ending.returned (.bool !b)) HB.out, hg1.trans (hg2.mono hg1.size)⟩

set_option maxHeartbeats 1000000 in
theorem w_eq (a0 a1 a2 a3 : Int) (HB : Hid ((bterm a0 a2 (IntKind.u64.wrap (IntKind.u64.wrap (a0 - a2) - bterm a1 a3 (IntKind.u64.wrap (a1 - a3)))) == 1) = false)) (w : World)
    (hlt : lt128 a0 a1 a2 a3 = false) (hgt : lt128 a2 a3 a0 a1 = false) (e0 : (a0 == a2) = true) (e1 : (a1 == a3) = true) :
    Calls Trym.prog 3 #[.int .u64 a0, .int .u64 a1, .int .u64 a2, .int .u64 a3] w fun e w' => e = .returned (.bool true) ∧ Below w.heap.size w w' := by
  go_enter Trym.func3, Trym.ntmps3
  go_wp2_with fail
  refine (less_any _ _ _ _ _).mono ?_
  rintro e w1 ⟨rfl, hg1⟩
  go_wp2_with fail
  refine (less_any _ _ _ _ _).mono ?_
  rintro e w2 ⟨rfl, hg2⟩
  go_wp2
  go_ret
  exact ⟨congrArg (fun b => Ending.returned (.bool !b)) HB.out, hg1.trans (hg2.mono hg1.size)⟩

theorem walk3 (a0 a1 a2 a3 : Int) (w : World) (w0 : (Lit.int .u64 a0).wf = true) (w1 : (Lit.int .u64 a1).wf = true) (w2 : (Lit.int .u64 a2).wf = true) (w3 : (Lit.int .u64 a3).wf = true) :
    Calls Trym.prog 3 #[.int .u64 a0, .int .u64 a1, .int .u64 a2, .int .u64 a3] w fun e w' => e = .returned (.bool true) ∧ Below w.heap.size w w' := by
  obtain ⟨b0, c0⟩ := bounds_u64 w0
  obtain ⟨b1, c1⟩ := bounds_u64 w1
  obtain ⟨b2, c2⟩ := bounds_u64 w2
  obtain ⟨b3, c3⟩ := bounds_u64 w3
  have HB := borrow128 a0 a1 a2 a3 b0 c0 b1 c1 b2 c2 b3 c3
  by_cases h0 : a0 = a2
  · have e0 : (a0 == a2) = true := by simpa using h0
    by_cases h1 : a1 = a3
    · have hl := lt128_no (xh := a0) (xl := a1) (yh := a2) (yl := a3) (by omega)
      exact w_eq a0 a1 a2 a3 (HB.trans hl) w hl (lt128_no (by omega)) e0 (by simpa using h1)
    · have e1 : (a1 == a3) = false := by simpa using h1
      by_cases h2 : a1 < a3
      · have hl := lt128_yes (xh := a0) (xl := a1) (yh := a2) (yl := a3) (by omega)
        exact w_lt1 a0 a1 a2 a3 (HB.trans hl) w hl (lt128_no (by omega)) e0 e1
      · have hl := lt128_no (xh := a0) (xl := a1) (yh := a2) (yl := a3) (by omega)
        exact w_gt1 a0 a1 a2 a3 (HB.trans hl) w hl (lt128_yes (by omega)) e0 e1
  · have e0 : (a0 == a2) = false := by simpa using h0
    by_cases h2 : a0 < a2
    · have hl := lt128_yes (xh := a0) (xl := a1) (yh := a2) (yl := a3) (by omega)
      exact w_lt0 a0 a1 a2 a3 (HB.trans hl) w hl (lt128_no (by omega)) e0
    · have hl := lt128_no (xh := a0) (xl := a1) (yh := a2) (yl := a3) (by omega)
      exact w_gt0 a0 a1 a2 a3 (HB.trans hl) w hl (lt128_yes (by omega)) e0
end Go.Proofs.Qxb6616319aMods

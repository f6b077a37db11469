import Derived.Test.Qxb6616021aModsRows
import Derived.WalkKit
import Derived.ProofKit
namespace Go.Proofs.Qxb6616021aMods
open Go.ChangeShapes Go.WideShapes Go.ChangeAt Go.RowKit

theorem and_nsec (x : Int) (h0 : 0 ≤ x) (h1 : x < 1000000000) : bits .and .u64 x 1073741823 = x := by
  rw [u64_and x 1073741823 h0 (by omega) (by decide) (by decide)]
  have : (x.toNat &&& (1073741823 : Int).toNat) = x.toNat % 2 ^ 30 := Nat.and_two_pow_sub_one_eq_mod x.toNat 30
  rw [this]
  omega
theorem and_mono (x : Int) (h0 : 0 ≤ x) (h1 : x < 1000000000) : bits .and .u64 x 9223372036854775808 = 0 := by
  rw [u64_and x 9223372036854775808 h0 (by omega) (by decide) (by decide)]
  have : (x.toNat &&& (9223372036854775808 : Int).toNat) = x.toNat / 2 ^ 63 % 2 * 2 ^ 63 := nat_bit 63 x.toNat
  rw [this]
  omega
theorem or_zero (x : Int) (h0 : 0 ≤ x) (h1 : x < 1000000000) : bits .or .u64 0 x = x := by
  rw [u64_or 0 x (by decide) (by decide) h0 (by omega)]
  simp; omega
theorem andNot_zero : bits .andNot .u64 0 1073741823 = 0 := by decide

set_option maxHeartbeats 400000 in
theorem nsec_any (b o : Nat) (x : Int) (w : World) (h0 : 0 ≤ x) (h1 : x < 1000000000) (hc : w.cell? ⟨b, o, none⟩ = some (.int .u64 x)) :
    Calls Trym.prog 28 #[.pointer (some ⟨b, o, none⟩)] w fun e w' => e = .returned (.int .i32 x) ∧ w' = w := by
  have e1 := and_nsec x h0 h1
  go_enter Trym.func28, Trym.ntmps28
  go_wp2
  go_ret
  exact ⟨rfl, rfl⟩

set_option maxHeartbeats 400000 in
theorem sec_any (b o : Nat) (x y : Int) (w : World) (h0 : 0 ≤ x) (h1 : x < 1000000000) (hc : w.cell? ⟨b, o, none⟩ = some (.int .u64 x)) (hc1 : w.cell? ⟨b, o + 1, none⟩ = some (.int .i64 y)) :
    Calls Trym.prog 33 #[.pointer (some ⟨b, o, none⟩)] w fun e w' => e = .returned (.int .i64 y) ∧ w' = w := by
  have e1 := and_mono x h0 h1
  go_enter Trym.func33, Trym.ntmps33
  go_wp2
  go_ret
  exact ⟨rfl, rfl⟩

set_option maxHeartbeats 400000 in
theorem addSec_any (b o : Nat) (x d : Int) (w : World) (h0 : 0 ≤ x) (h1 : x < 1000000000) (hc : w.cell? ⟨b, o, none⟩ = some (.int .u64 x)) (hc1 : w.cell? ⟨b, o + 1, none⟩ = some (.int .i64 0))
    (hf1 : w.frozen? ⟨b, o + 1, none⟩ = false) (hd0 : -9223372037 ≤ d) (hd1 : d ≤ 9223372037) :
    Calls Trym.prog 29 #[.pointer (some ⟨b, o, none⟩), .int .i64 d] w fun e w' => e = .returned (.tuple #[]) ∧ w' = w.setCell ⟨b, o + 1, none⟩ (.int .i64 d) := by
  have e1 := and_mono x h0 h1
  go_enter Trym.func29, Trym.ntmps29
  go_wp2
  go_end0
  exact ⟨rfl, rfl⟩

/-- the seconds and the nanoseconds of a time n nanoseconds after the zero time -/
def tsec (n : Int) : Int := n / 1000000000
def tns (n : Int) : Int := n % 1000000000

theorem tns_lo (n : Int) : 0 ≤ tns n := by unfold tns; omega
theorem tns_hi (n : Int) : tns n < 1000000000 := by unfold tns; omega
theorem tparts (n : Int) : n = tsec n * 1000000000 + tns n := by unfold tns tsec; omega

theorem t_neg (n : Int) (h : n < 0) (hn0 : -9223372036854775808 ≤ n) : (-9223372037 ≤ n.tdiv 1000000000 ∧ n.tdiv 1000000000 ≤ 0) ∧ (-1000000000 < n.tmod 1000000000 ∧ n.tmod 1000000000 ≤ 0) ∧ n = n.tdiv 1000000000 * 1000000000 + n.tmod 1000000000 := by
  obtain ⟨m, rfl⟩ : ∃ m : Int, n = -m := ⟨-n, by omega⟩
  rw [Int.neg_tdiv, Int.neg_tmod, Int.tdiv_eq_ediv_of_nonneg (by omega), Int.tmod_eq_emod_of_nonneg (by omega)]
  omega

theorem tq (n q r : Int) (h : n = q * 1000000000 + r) (h0 : -1000000000 < r) (h1 : r < 0) : r + 1000000000 = tns n ∧ q - 1 = tsec n := by
  unfold tns tsec; omega
theorem tq0 (n q r : Int) (h : n = q * 1000000000 + r) (h1 : r = 0) : r = tns n ∧ q = tsec n := by
  unfold tns tsec; omega

abbrev tval (n : Int) : Value := .agg #[.int .u64 (tns n), .int .i64 (tsec n), .pointer none]
theorem tval_eq {n a b : Int} (h : a = tns n ∧ b = tsec n) : Value.agg #[.int .u64 a, .int .i64 b, .pointer none] = tval n := by
  obtain ⟨rfl, rfl⟩ := h; rfl

set_option maxHeartbeats 1000000 in
theorem add_neg (n : Int) (w : World) (hn0 : -9223372036854775808 ≤ n) (hn : n < 0) (hr : n.tmod 1000000000 < 0) :
    Calls Trym.prog 23 #[.agg #[.int .u64 0, .int .i64 0, .pointer none], .int .i64 n] w fun e w' => e = .returned (tval n) ∧ Below w.heap.size w w' := by
  obtain ⟨⟨q0, q1⟩, ⟨r0, r1⟩, hq⟩ := t_neg n hn hn0
  have HV : Hid (Value.agg #[.int .u64 (n.tmod 1000000000 + 1000000000), .int .i64 (n.tdiv 1000000000 - 1), .pointer none] = tval n) := tval_eq (tq n _ _ hq r0 hr)
  clear hq
  rw [← HV.out]
  have e0 := andNot_zero
  have e1 := and_mono (n.tmod 1000000000 + 1000000000) (by omega) (by omega)
  have e2 := or_zero (n.tmod 1000000000 + 1000000000) (by omega) (by omega)
  have e3 := and_nsec 0 (by omega) (by omega)
  go_enter Trym.func23, Trym.ntmps23
  go_wp2
  go_end0
  go_wp2
  exact bodyPost_ret (v := .agg #[.int .u64 (n.tmod 1000000000 + 1000000000), .int .i64 (n.tdiv 1000000000 - 1), .pointer none]) (by simp [results, Trym.results23, go_sem]) rfl ⟨rfl, ((Below.refl _ _).alloc (Nat.le_refl _) _).alloc (by simp) _⟩

set_option maxHeartbeats 1000000 in
theorem add_neg0 (n : Int) (w : World) (hn0 : -9223372036854775808 ≤ n) (hn : n < 0) (hr : n.tmod 1000000000 = 0) :
    Calls Trym.prog 23 #[.agg #[.int .u64 0, .int .i64 0, .pointer none], .int .i64 n] w fun e w' => e = .returned (tval n) ∧ Below w.heap.size w w' := by
  obtain ⟨⟨q0, q1⟩, ⟨r0, r1⟩, hq⟩ := t_neg n hn hn0
  have HV : Hid (Value.agg #[.int .u64 0, .int .i64 (n.tdiv 1000000000), .pointer none] = tval n) := tval_eq (hr ▸ tq0 n _ _ hq hr)
  clear hq
  rw [← HV.out]
  have e0 := andNot_zero
  have e1 := and_mono 0 (by omega) (by omega)
  have e2 := or_zero 0 (by omega) (by omega)
  have e3 := and_nsec 0 (by omega) (by omega)
  go_enter Trym.func23, Trym.ntmps23
  go_wp2
  go_end0
  go_wp2
  exact bodyPost_ret (v := .agg #[.int .u64 0, .int .i64 (n.tdiv 1000000000), .pointer none]) (by simp [results, Trym.results23, go_sem]) rfl ⟨rfl, ((Below.refl _ _).alloc (Nat.le_refl _) _).alloc (by simp) _⟩

set_option maxHeartbeats 1000000 in
theorem add_pos (n : Int) (w : World) (hn0 : 0 ≤ n) (hn1 : n ≤ 9223372036854775807) :
    Calls Trym.prog 23 #[.agg #[.int .u64 0, .int .i64 0, .pointer none], .int .i64 n] w fun e w' => e = .returned (tval n) ∧ Below w.heap.size w w' := by
  have HV : Hid (Value.agg #[.int .u64 (n % 1000000000), .int .i64 (n / 1000000000), .pointer none] = tval n) := tval_eq ⟨rfl, rfl⟩
  rw [← HV.out]
  have e0 := andNot_zero
  have e1 := and_mono (n % 1000000000) (by omega) (by omega)
  have e2 := or_zero (n % 1000000000) (by omega) (by omega)
  have e3 := and_nsec 0 (by omega) (by omega)
  go_enter Trym.func23, Trym.ntmps23
  go_wp2
  go_end0
  go_wp2
  exact bodyPost_ret (v := .agg #[.int .u64 (n % 1000000000), .int .i64 (n / 1000000000), .pointer none]) (by simp [results, Trym.results23, go_sem]) rfl ⟨rfl, ((Below.refl _ _).alloc (Nat.le_refl _) _).alloc (by simp) _⟩

theorem add_any (n : Int) (w : World) (hn0 : -9223372036854775808 ≤ n) (hn1 : n ≤ 9223372036854775807) :
    Calls Trym.prog 23 #[.agg #[.int .u64 0, .int .i64 0, .pointer none], .int .i64 n] w fun e w' => e = .returned (tval n) ∧ Below w.heap.size w w' := by
  by_cases h : 0 ≤ n
  · exact add_pos n w h hn1
  · by_cases hr : n.tmod 1000000000 < 0
    · exact add_neg n w hn0 (by omega) hr
    · have := (t_neg n (by omega) hn0).2.1
      exact add_neg0 n w hn0 (by omega) (by omega)

theorem bcell {B : Nat} {W w1 : World} (hb : Below B W w1) : (∀ b o, b < B → w1.cell? ⟨b, o, none⟩ = W.cell? ⟨b, o, none⟩) ∧ (∀ b o, b < B → w1.frozen? ⟨b, o, none⟩ = W.frozen? ⟨b, o, none⟩) :=
  ⟨fun b o h => hb.cell (p := ⟨b, o, none⟩) h, fun b o h => hb.frozen (p := ⟨b, o, none⟩) h⟩

set_option maxHeartbeats 1000000 in
theorem zzAt_any (n : Int) (w : World) (hn0 : -9223372036854775808 ≤ n) (hn1 : n ≤ 9223372036854775807) :
    Calls Trym.prog 18 #[.int .i64 n] w fun e w' => e = .returned (tval n) ∧ Below w.heap.size w w' := by
  go_enter Trym.func18, Trym.ntmps18
  go_wp2_with fail
  refine (add_any n _ hn0 hn1).mono ?_
  rintro e w1 ⟨rfl, hb⟩
  obtain ⟨hc, hf⟩ := bcell hb
  simp only [World.size_alloc] at hc hf hb
  have hz : w.heap.size < w1.heap.size := by have := hb.size; simp at this; omega
  have c0 : w1.cell? ⟨w.heap.size, 0, none⟩ = some (.int .u64 0) := by rw [hc _ _ (by omega)]; simp [go_sem]
  have c1 : w1.cell? ⟨w.heap.size, 1, none⟩ = some (.int .i64 0) := by rw [hc _ _ (by omega)]; simp [go_sem]
  have c2 : w1.cell? ⟨w.heap.size, 2, none⟩ = some (.pointer none) := by rw [hc _ _ (by omega)]; simp [go_sem]
  have f0 : w1.frozen? ⟨w.heap.size, 0, none⟩ = false := by rw [hf _ _ (by omega)]; simp [go_sem]
  have f1 : w1.frozen? ⟨w.heap.size, 1, none⟩ = false := by rw [hf _ _ (by omega)]; simp [go_sem]
  have f2 : w1.frozen? ⟨w.heap.size, 2, none⟩ = false := by rw [hf _ _ (by omega)]; simp [go_sem]
  clear hc hf
  go_wp2
  exact bodyPost_ret (v := tval n) (by simp [results, Trym.results18, go_sem, c0, c1, c2]) rfl ⟨rfl, ((((((Below.refl _ _).alloc (Nat.le_refl _) _).trans (hb.mono (by omega))).setCell (by simp) _).setCell (by simp) _).setCell (by simp) _)⟩

theorem and2_mono (x y : Int) (h0 : 0 ≤ x) (h1 : x < 1000000000) (g0 : 0 ≤ y) (g1 : y < 1000000000) : bits .and .u64 (bits .and .u64 x y) 9223372036854775808 = 0 := by
  have e : bits .and .u64 x y = ((x.toNat &&& y.toNat : Nat) : Int) := u64_and x y h0 (by omega) g0 (by omega)
  have hl : (x.toNat &&& y.toNat) ≤ x.toNat := Nat.and_le_left
  rw [e]
  exact and_mono _ (by omega) (by omega)

set_option maxHeartbeats 1000000 in
theorem equal_any (n m : Int) (w : World) :
    Calls Trym.prog 26 #[tval n, tval m] w fun e w' => e = .returned (.bool (n == m)) ∧ Below w.heap.size w w' := by
  have HN := tparts n
  have HM := tparts m
  have n0 := tns_lo n
  have n1 := tns_hi n
  have m0 := tns_lo m
  have m1 := tns_hi m
  have e0 := and2_mono (tns n) (tns m) n0 n1 m0 m1
  have e1 := and_mono (tns n) n0 n1
  have e2 := and_mono (tns m) m0 m1
  have e3 := and_nsec (tns n) n0 n1
  have e4 := and_nsec (tns m) m0 m1
  by_cases h1 : tsec n = tsec m
  · by_cases h2 : tns n = tns m
    · have hv : (n == m) = true := by simp; omega
      rw [hv]
      have h1' : (tsec n == tsec m) = true := by simp [h1]
      have h2' : (tns n == tns m) = true := by simp [h2]
      clear HN HM hv h1 h2
      go_enter Trym.func26, Trym.ntmps26
      go_wp2
      go_ret
      exact ⟨rfl, ((Below.refl _ _).alloc (Nat.le_refl _) _).alloc (by simp) _⟩
    · have hv : (n == m) = false := by simp; omega
      rw [hv]
      have h1' : (tsec n == tsec m) = true := by simp [h1]
      have h2' : (tns n == tns m) = false := by simp [h2]
      clear HN HM hv h1 h2
      go_enter Trym.func26, Trym.ntmps26
      go_wp2
      go_ret
      exact ⟨rfl, ((Below.refl _ _).alloc (Nat.le_refl _) _).alloc (by simp) _⟩
  · have hv : (n == m) = false := by simp; intro h; subst h; exact h1 rfl
    rw [hv]
    have h1' : (tsec n == tsec m) = false := by simp [h1]
    clear HN HM hv h1
    go_enter Trym.func26, Trym.ntmps26
    go_wp2
    go_ret
    exact ⟨rfl, ((Below.refl _ _).alloc (Nat.le_refl _) _).alloc (by simp) _⟩
end Go.Proofs.Qxb6616021aMods

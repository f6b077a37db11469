import Derived.Test.Qxb6616736aModsRows
import Derived.WalkKit
import Derived.ProofKit
import Derived.WalkSpells
import Derived.Deep.QuietTactic
import Derived.BigQuiet
namespace Go.Proofs.Qxb6616736aMods
open Go.ChangeShapes Go.WideShapes Go.ChangeAt Go.RowKit

/-- What is known of a slice whose elements take one cell each: cell i is 'V i'. -/
structure CellArr (w : World) (a : Option Addr) (len : Nat) (V : Nat → Value) : Prop where
  at' : 0 < len → ∃ b off, a = some ⟨b, off, none⟩ ∧ b < w.heap.size ∧ ∀ i, i < len → w.cell? ⟨b, off + i, none⟩ = some (V i)
  small : len ≤ maxLen
theorem CellArr.below {w w' : World} {a : Option Addr} {len : Nat} {V : Nat → Value} (h : CellArr w a len V) {B : Nat} (hb : Below B w w') (hB : w.heap.size ≤ B) : CellArr w' a len V :=
  ⟨fun h0 => by
    obtain ⟨b, off, e, hl, h1⟩ := h.at' h0
    exact ⟨b, off, e, Nat.lt_of_lt_of_le hl hb.size, fun i hi => (hb.cell (p := ⟨b, off + i, none⟩) (by show b < B; omega)).trans (h1 i hi)⟩,
   h.small⟩

def RetBool (e : Ending) : Prop := ∃ B : Bool, e = .returned (.bool B)
theorem retBool (B : Bool) : RetBool (.returned (.bool B)) := ⟨B, rfl⟩

/-- The sum of the first n numbers. -/
def sumN (L : Nat → Nat) : Nat → Nat
  | 0 => 0
  | k + 1 => sumN L k + L k
theorem sumN_zero (L : Nat → Nat) : sumN L 0 = 0 := rfl
theorem sumN_succ (L : Nat → Nat) (k : Nat) : sumN L (k + 1) = sumN L k + L k := rfl
theorem sumN_congr {L M : Nat → Nat} : ∀ n, (∀ i, i < n → L i = M i) → sumN L n = sumN M n
  | 0, _ => rfl
  | n + 1, h => by rw [sumN_succ, sumN_succ, sumN_congr n (fun i hi => h i (by omega)), h n (by omega)]
theorem sumN_add (L : Nat → Nat) (a : Nat) : ∀ b, sumN L (a + b) = sumN L a + sumN (fun i => L (a + i)) b
  | 0 => rfl
  | b + 1 => by rw [← Nat.add_assoc, sumN_succ, sumN_succ, sumN_add L a b, Nat.add_assoc]
theorem sumN_const0 {L : Nat → Nat} : ∀ n, (∀ i, i < n → L i = 0) → sumN L n = 0
  | 0, _ => rfl
  | n + 1, h => by rw [sumN_succ, sumN_const0 n (fun i hi => h i (by omega)), h n (by omega)]
theorem sumN_mono (L : Nat → Nat) {a b : Nat} (h : a ≤ b) : sumN L a ≤ sumN L b := by
  obtain ⟨c, rfl⟩ : ∃ c, b = a + c := ⟨b - a, by omega⟩
  rw [sumN_add]
  omega
theorem sumN_at (L : Nat → Nat) {i n : Nat} (h : i < n) : L i ≤ sumN L n := by
  have := sumN_mono L (show i + 1 ≤ n from h)
  rw [sumN_succ] at this
  omega

/-- How many bytes a value of a Row takes beyond its slot. -/
def vsz : Value → Nat
  | .iface _ (.string s) => s.size
  | .iface _ (.slice _ l _) => l
  | _ => 0
/-- A value of a Row, as ZZnewRow makes them. -/
def IsVal (v : Value) : Prop := (∃ s, v = .iface 9 (.string s)) ∨ (∃ a l c, v = .iface 31 (.slice a l c)) ∨ (∃ n, v = .iface 2 (.int .i64 n)) ∨ v = .nilIface

/-- The values of a row of texts, blobs, numbers and NULLs, by their place. -/
def rowV (tl bl il : Nat) (S : Nat → ByteArray) (A : Nat → Option Addr) (L C : Nat → Nat) (N : Nat → Int) (i : Nat) : Value :=
  if i < tl then .iface 9 (.string (S i)) else if i < tl + bl then .iface 31 (.slice (A (i - tl)) (L (i - tl)) (C (i - tl))) else if i < tl + bl + il then .iface 2 (.int .i64 (N (i - tl - bl))) else .nilIface
section
variable {tl bl il : Nat} {S : Nat → ByteArray} {A : Nat → Option Addr} {L C : Nat → Nat} {N : Nat → Int}
theorem rowV_text {k : Nat} (h : k < tl) : rowV tl bl il S A L C N k = .iface 9 (.string (S k)) := by simp [rowV, h]
theorem rowV_blob {k : Nat} (h : k < bl) : rowV tl bl il S A L C N (tl + k) = .iface 31 (.slice (A k) (L k) (C k)) := by
  simp [rowV, h]
theorem rowV_int {k : Nat} (h : k < il) : rowV tl bl il S A L C N (tl + bl + k) = .iface 2 (.int .i64 (N k)) := by
  unfold rowV
  rw [if_neg (by omega), if_neg (by omega), if_pos (by omega), show tl + bl + k - tl - bl = k by omega]
theorem rowV_null (k : Nat) : rowV tl bl il S A L C N (tl + bl + il + k) = .nilIface := by
  unfold rowV
  rw [if_neg (by omega), if_neg (by omega), if_neg (by omega)]
theorem rowV_isVal (i : Nat) : IsVal (rowV tl bl il S A L C N i) := by
  unfold rowV
  by_cases h1 : i < tl
  · rw [if_pos h1]; exact .inl ⟨_, rfl⟩
  · rw [if_neg h1]
    by_cases h2 : i < tl + bl
    · rw [if_pos h2]; exact .inr (.inl ⟨_, _, _, rfl⟩)
    · rw [if_neg h2]
      by_cases h3 : i < tl + bl + il
      · rw [if_pos h3]; exact .inr (.inr (.inl ⟨_, rfl⟩))
      · rw [if_neg h3]; exact .inr (.inr (.inr rfl))
/-- What the values take beyond their slots: the texts' and the blobs' bytes. -/
theorem rowV_sum (z : Nat) : sumN (fun i => vsz (rowV tl bl il S A L C N i)) (tl + bl + il + z) = sumN (fun i => (S i).size) tl + sumN L bl := by
  rw [sumN_add, sumN_add, sumN_add]
  have e1 : sumN (fun i => vsz (rowV tl bl il S A L C N i)) tl = sumN (fun i => (S i).size) tl := sumN_congr tl (fun i hi => by rw [rowV_text hi]; rfl)
  have e2 : sumN (fun i => vsz (rowV tl bl il S A L C N (tl + i))) bl = sumN L bl := sumN_congr bl (fun i hi => by rw [rowV_blob hi]; rfl)
  have e3 : sumN (fun i => vsz (rowV tl bl il S A L C N (tl + bl + i))) il = 0 := sumN_const0 il (fun i hi => by rw [rowV_int hi]; rfl)
  have e4 : sumN (fun i => vsz (rowV tl bl il S A L C N (tl + bl + il + i))) z = 0 := sumN_const0 z (fun i _ => by rw [rowV_null]; rfl)
  rw [e1, e2, e3, e4]; omega
end

/-! ### valueSize and Size -/
theorem ta_ss (s : ByteArray) (w : World) : (Instr.typeAssert (.iface 9 (.string s)) 20 9 true).run Trym.prog w = .ok (.tuple #[.string s, .bool true]) w := by kernel_rfl
theorem ta_bs (a : Option Addr) (l c : Nat) (w : World) : (Instr.typeAssert (.iface 31 (.slice a l c)) 20 9 true).run Trym.prog w = .ok (.tuple #[.string ⟨#[]⟩, .bool false]) w := by kernel_rfl
theorem ta_bb (a : Option Addr) (l c : Nat) (w : World) : (Instr.typeAssert (.iface 31 (.slice a l c)) 20 31 true).run Trym.prog w = .ok (.tuple #[.slice a l c, .bool true]) w := by kernel_rfl
theorem ta_is (n : Int) (w : World) : (Instr.typeAssert (.iface 2 (.int .i64 n)) 20 9 true).run Trym.prog w = .ok (.tuple #[.string ⟨#[]⟩, .bool false]) w := by kernel_rfl
theorem ta_ib (n : Int) (w : World) : (Instr.typeAssert (.iface 2 (.int .i64 n)) 20 31 true).run Trym.prog w = .ok (.tuple #[.slice none 0 0, .bool false]) w := by kernel_rfl
theorem ta_ns (w : World) : (Instr.typeAssert .nilIface 20 9 true).run Trym.prog w = .ok (.tuple #[.string ⟨#[]⟩, .bool false]) w := by kernel_rfl
theorem ta_nb (w : World) : (Instr.typeAssert .nilIface 20 31 true).run Trym.prog w = .ok (.tuple #[.slice none 0 0, .bool false]) w := by kernel_rfl

set_option maxHeartbeats 400000 in
theorem valueSize_any (v : Value) (h : IsVal v) (w : World) : Calls Trym.prog 11 #[v] w fun e w' => e = .returned (.int .i64 (vsz v)) ∧ w' = w := by
  have t1 := ta_ss
  have t2 := ta_bs
  have t3 := ta_bb
  have t4 := ta_is
  have t5 := ta_ib
  have t6 := ta_ns
  have t7 := ta_nb
  rcases h with ⟨s, rfl⟩ | ⟨a, l, c, rfl⟩ | ⟨n, rfl⟩ | rfl
  all_goals
    go_enter Trym.func11, Trym.ntmps11
    go_wp2
    go_ret
    exact ⟨rfl, rfl⟩
end Go.Proofs.Qxb6616736aMods

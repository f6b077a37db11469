import Derived.Test.Qxb6616736aModsNewRow
import Derived.Test.Qxb6616736aModsGuards
import Derived.Laws.CopyOwn
import Derived.Deep.OwnRows
import Derived.Deep.DeepCutAuto
import Derived.OwnWalk
namespace Go.Proofs.Qxb6616736aMods
open Go.ChangeShapes Go.WideShapes Go.ChangeAt Go.RowKit

theorem info9 : (Trym.prog.info? 9).map (fun i => (i.zero, i.size, i.bytes)) = some (some (.string ⟨#[]⟩), 1, 16) := by kernel_rfl
theorem info2 : (Trym.prog.info? 2).map (fun i => (i.zero, i.size, i.bytes)) = some (some (.int .i64 0), 1, 8) := by kernel_rfl
theorem info31 : (Trym.prog.info? 31).map (fun i => (i.zero, i.size, i.bytes)) = some (some (.slice none 0 0), 1, 24) := by kernel_rfl
theorem size9 : (Trym.prog.info? 9).map (·.size) = some 1 := by kernel_rfl
theorem size2 : (Trym.prog.info? 2).map (·.size) = some 1 := by kernel_rfl
theorem sizeOf9 (w : World) : (Go.sizeOf 9).run Trym.prog w = .ok 1 w := by kernel_rfl
theorem sizeOf2 (w : World) : (Go.sizeOf 2).run Trym.prog w = .ok 1 w := by kernel_rfl
theorem sizeOf31 (w : World) : (Go.sizeOf 31).run Trym.prog w = .ok 1 w := by kernel_rfl
/-- make([]string, n) -/
theorem make9 (n : Nat) (h : n ≤ 131072) : ∃ cz : List Value, cz.length = n ∧ ∀ W : World, (Instr.makeSlice 22 (.int .i64 (n : Int)) (.int .i64 (n : Int))).run Trym.prog W = .ok (.slice (some ⟨W.heap.size, 0, none⟩) n n) (W.alloc (.cells cz.toArray 9)) := by
  refine ⟨(madeCells #[.string ⟨#[]⟩] n).toList, by simp [madeCells], fun W => ?_⟩
  have := run_make_row' (P := Trym.prog) 22 9 (.string ⟨#[]⟩) 16 Trym.underlying22 info9 rfl .i64 .i64 n (by omega) (by omega) W
  simpa using this
/-- make([]int64, n) -/
theorem make2 (n : Nat) (h : n ≤ 131072) : ∃ cz : List Value, cz.length = n ∧ ∀ W : World, (Instr.makeSlice 24 (.int .i64 (n : Int)) (.int .i64 (n : Int))).run Trym.prog W = .ok (.slice (some ⟨W.heap.size, 0, none⟩) n n) (W.alloc (.cells cz.toArray 2)) := by
  refine ⟨(madeCells #[.int .i64 0] n).toList, by simp [madeCells], fun W => ?_⟩
  have := run_make_row' (P := Trym.prog) 24 2 (.int .i64 0) 8 Trym.underlying24 info2 rfl .i64 .i64 n (by omega) (by omega) W
  simpa using this
/-- make([]T, 0, n + 1) for an element of one cell -/
theorem makeRoom (t e : TypeId) (z : Value) (b : Nat) (ht : Trym.prog.underlying t = some (.slice e)) (hinf : (Trym.prog.info? e).map (fun i => (i.zero, i.size, i.bytes)) = some (some z, 1, b)) (hb : b ≤ 24) (n : Nat) (h : n ≤ 131072) :
    ∃ cz : Array Value, cz.size = n + 1 ∧ ∀ W : World, (Instr.makeSlice t (.int .i64 0) (.int .i64 ((n : Int) + 1))).run Trym.prog W = .ok (.slice (some ⟨W.heap.size, 0, none⟩) 0 (n + 1)) (W.alloc (.cells cz e)) := by
  obtain ⟨i, hi, hz0, hz1, hz2⟩ := info_parts hinf
  refine ⟨madeCells z.cells ((n + 1) * 1), by simp [size_madeCells], fun W => ?_⟩
  have hm : (b : Int) * ((n : Int) + 1) ≤ 3145752 := by
    have := Nat.mul_le_mul hb (show n + 1 ≤ 131073 by omega)
    have h2 : ((b * (n + 1) : Nat) : Int) ≤ ((24 * 131073 : Nat) : Int) := Int.ofNat_le.2 this
    simp at h2
    omega
  have hr := run_make (P := Trym.prog) W t e i z ht hi hz0 .i64 .i64 0 ((n : Int) + 1) (by omega) (by omega) (by rw [hz2]; omega) (by omega)
  rw [hz1] at hr
  simpa using hr

theorem length_pre (V : Nat → Value) (n : Nat) : (pre V n).length = n := by simp [pre]
theorem pre_one {V : Nat → Value} (h : ∀ i, (V i).oneCell' = true) (n : Nat) : ∀ v ∈ pre V n, v.oneCell' = true := fun v hv => by
  obtain ⟨i, _, rfl⟩ := List.mem_map.1 hv
  exact h i
theorem CellArr.src {w : World} {a : Option Addr} {n : Nat} {V : Nat → Value} (h : CellArr w a n V) {ad : Addr} (ha : a = some ad) (j : Nat) (v : Value) (hv : (pre V n)[j]? = some v) : w.cell? (ad.add j) = some v := by
  have hj : j < n := by
    have := (List.getElem?_eq_some_iff.1 hv).1
    rwa [length_pre] at this
  obtain ⟨b, off, e, _, hc⟩ := h.at' (by omega)
  rw [ha] at e
  cases e
  rw [pre_at hj] at hv
  cases hv
  rw [add_plain]
  exact hc j hj
theorem CellArr.src' {w : World} {a : Option Addr} {n : Nat} {V : Nat → Value} (h : CellArr w a n V) (hpos : 0 < (pre V n).length) :
    ∃ ad, a = some ad ∧ ∀ j v, (pre V n)[j]? = some v → w.cell? (ad.add j) = some v := by
  rw [length_pre] at hpos
  obtain ⟨b, off, e, _, _⟩ := h.at' hpos
  exact ⟨_, e, h.src e⟩
/-- What a copied row holds. -/
theorem arr_row {w : World} {g n : Nat} {e : TypeId} {cz : List Value} {V : Nat → Value} (hz : cz.length = n) (h : w.heap[g]? = some (.cells (splice cz 0 (pre V n)).toArray e (0, 0))) (hn : n ≤ maxLen) : CellArr w (some ⟨g, 0, none⟩) n V := by
  have e : splice cz 0 (pre V n) = pre V n := by
    unfold splice
    rw [List.take_zero, List.nil_append, length_pre, Nat.zero_add, List.drop_eq_nil_of_le (by omega), List.append_nil]
  rw [e] at h
  have hg : g < w.heap.size := (Array.getElem?_eq_some_iff.1 h).1
  refine ⟨fun _ => ⟨g, 0, rfl, hg, fun i hi => ?_⟩, hn⟩
  simp only [World.cell?, h]
  simpa using pre_at hi
/-- What an own row holds. -/
theorem own_cells {w : World} {B g m c : Nat} {e : TypeId} {V : Nat → Value} {xs : List Value} (h : w.ownsRow B e 1 (.slice (some ⟨g, 0, none⟩) m c) m xs) (hx : xs = pre V m) (hm : m ≤ maxLen) : CellArr w (some ⟨g, 0, none⟩) m V := by
  subst hx
  exact ⟨fun h0 => ⟨g, 0, rfl, (h.lt g rfl).2, fun i hi => by rw [Nat.zero_add, h.cellAt i (by omega), pre_at hi]⟩, hm⟩
theorem own_new (w : World) (e : TypeId) (cz : Array Value) (n : Nat) (h : cz.size = n) (hn : n ≤ maxLen) : (w.alloc (.cells cz e)).ownsRow w.heap.size e 1 (.slice (some ⟨w.heap.size, 0, none⟩) 0 n) 0 [] :=
  World.ownsRow_made w cz n (Nat.le_refl _) hn (by rw [h, Nat.mul_one])

/-- a nil slice has no cells -/
def NilOk (a : Option Addr) (len cap : Nat) : Prop := a = none → len = 0 ∧ cap = 0
/-- where xs[n:] lies -/
def lowAt (a : Option Addr) (n cap : Nat) : Option Addr := if cap = n then a else a.map fun p => p.add n
theorem run_hi (t e : TypeId) (ht : Trym.prog.underlying t = some (.slice e)) (hz : ∀ w, (Go.sizeOf e).run Trym.prog w = .ok 1 w) (a : Option Addr) (len cap n : Nat) (hn : n ≤ cap) (hnil : NilOk a len cap) (W : World) :
    (Instr.slice t (.slice a len cap) none (some (.int .i64 (n : Int))) none).run Trym.prog W = .ok (.slice a n cap) W := by
  have ht' : Trym.prog.underlying t = some (.slice (Trym.prog.elem t)) := by simp [Program.elem, ht]
  have he : Trym.prog.elem t = e := by simp [Program.elem, ht]
  rw [run_slice_h W t _ _ _ ht' .i64 _ (by omega) (by omega), he, hz]
  cases a with
  | none =>
    obtain ⟨rfl, rfl⟩ := hnil rfl
    obtain rfl : n = 0 := by omega
    simp [Result.andThen, sliced]
  | some p => simp [Result.andThen, sliced, Addr.add]
theorem run_lo (t e : TypeId) (ht : Trym.prog.underlying t = some (.slice e)) (hz : ∀ w, (Go.sizeOf e).run Trym.prog w = .ok 1 w) (a : Option Addr) (len cap n : Nat) (hn : n ≤ len) (hnil : NilOk a len cap) (W : World) :
    (Instr.slice t (.slice a len cap) (some (.int .i64 (n : Int))) none none).run Trym.prog W = .ok (.slice (lowAt a n cap) (len - n) (cap - n)) W := by
  have ht' : Trym.prog.underlying t = some (.slice (Trym.prog.elem t)) := by simp [Program.elem, ht]
  have he : Trym.prog.elem t = e := by simp [Program.elem, ht]
  rw [run_slice_l W t _ _ _ ht' .i64 _ (by omega) (by omega), he, hz]
  unfold lowAt
  cases a with
  | none =>
    obtain ⟨rfl, rfl⟩ := hnil rfl
    obtain rfl : n = 0 := by omega
    simp [Result.andThen, sliced]
  | some p =>
    by_cases h0 : cap = n
    · simp [Result.andThen, sliced, h0]
    · by_cases h1 : n = 0
      · subst h1; simp [Result.andThen, sliced, Addr.add, h0]
      · simp [Result.andThen, sliced, Addr.add, h0, h1]
theorem CellArr.hi {w : World} {a : Option Addr} {len n : Nat} {V : Nat → Value} (h : CellArr w a len V) (hn : n ≤ len) : CellArr w a n V :=
  ⟨fun h0 => by
    obtain ⟨b, off, e, hl, hc⟩ := h.at' (by omega)
    exact ⟨b, off, e, hl, fun i hi => hc i (by omega)⟩, Nat.le_trans hn h.small⟩
theorem CellArr.lo {w : World} {a : Option Addr} {len n cap : Nat} {V : Nat → Value} (h : CellArr w a len V) (hn : n ≤ len) (hc : len ≤ cap) : CellArr w (lowAt a n cap) (len - n) (fun i => V (n + i)) :=
  ⟨fun h0 => by
    obtain ⟨b, off, e, hl, hc⟩ := h.at' (by omega)
    subst e
    refine ⟨b, off + n, ?_, hl, fun i hi => ?_⟩
    · unfold lowAt
      rw [if_neg (by omega)]
      simp [add_plain]
    · rw [Nat.add_assoc]; exact hc (n + i) (by omega), Nat.le_trans (Nat.sub_le _ _) h.small⟩
theorem NilOk.lo {a : Option Addr} {len cap n : Nat} (h : NilOk a len cap) : NilOk (lowAt a n cap) (len - n) (cap - n) := fun h0 => by
  cases a with
  | none =>
    obtain ⟨h1, h2⟩ := h rfl
    constructor <;> omega
  | some p =>
    unfold lowAt at h0
    split at h0 <;> simp at h0
theorem NilOk.hi {a : Option Addr} {len cap n : Nat} (h : NilOk a len cap) (hn : n ≤ len) : NilOk a n cap := fun h0 => by
  obtain ⟨h1, h2⟩ := h h0
  constructor <;> omega
/-! ### one value more -/
theorem pre_add (V : Nat → Value) (a b : Nat) : pre V (a + b) = pre V a ++ pre (fun i => V (a + i)) b := by
  simp [pre, List.range_add, Function.comp_def]
theorem pre_congr {V U : Nat → Value} (n : Nat) (h : ∀ i, i < n → V i = U i) : pre V n = pre U n := by
  unfold pre
  exact List.map_congr_left fun i hi => h i (List.mem_range.1 hi)
/-- s put in at place n -/
def ins {α : Type} (S : Nat → α) (n : Nat) (s : α) (i : Nat) : α := if i < n then S i else if i = n then s else S (i - 1)
theorem ins_lt {α : Type} {S : Nat → α} {n : Nat} {s : α} {i : Nat} (h : i < n) : ins S n s i = S i := by simp [ins, h]
theorem ins_at {α : Type} {S : Nat → α} {n : Nat} {s : α} : ins S n s n = s := by simp [ins]
theorem ins_gt {α : Type} {S : Nat → α} {n : Nat} {s : α} (i : Nat) : ins S n s (n + 1 + i) = S (n + i) := by
  unfold ins
  rw [if_neg (by omega), if_neg (by omega)]
  congr 1
  omega
theorem pre_ins {α : Type} (f : α → Value) (S : Nat → α) (n : Nat) (s : α) (m : Nat) : pre (fun i => f (S i)) n ++ [f s] ++ pre (fun i => f (S (n + i))) m = pre (fun i => f (ins S n s i)) (n + 1 + m) := by
  have e1 : pre (fun i => f (ins S n s i)) n = pre (fun i => f (S i)) n := pre_congr n (fun i hi => by show f (ins S n s i) = f (S i); rw [ins_lt hi])
  have e2 : pre (fun i => f (ins S n s (n + 1 + i))) m = pre (fun i => f (S (n + i))) m := pre_congr m (fun i _ => by show f (ins S n s (n + 1 + i)) = f (S (n + i)); rw [ins_gt i])
  rw [pre_add, pre_succ, e1, e2, ins_at]
theorem sum_ins (S : Nat → Nat) (n s m : Nat) : sumN (ins S n s) (n + 1 + m) = sumN S (n + m) + s := by
  have e1 : sumN (ins S n s) n = sumN S n := sumN_congr n (fun i hi => ins_lt hi)
  have e2 : sumN (fun i => ins S n s (n + 1 + i)) m = sumN (fun i => S (n + i)) m := sumN_congr m (fun i _ => ins_gt i)
  rw [sumN_add, sumN_succ, e1, e2, ins_at, sumN_add S n m]
  omega
theorem sum_ins' {α : Type} (f : α → Nat) (S : Nat → α) (n : Nat) (s : α) (m : Nat) : sumN (fun i => f (ins S n s i)) (n + 1 + m) = sumN (fun i => f (S i)) (n + m) + f s := by
  rw [← sum_ins (fun i => f (S i)) n (f s) m]
  refine sumN_congr _ fun i _ => ?_
  unfold ins
  split
  · rfl
  · split <;> rfl

/-- Size of a row that ZZnewRow made. -/
theorem size_row (R tl bl il zn : Nat) (S : Nat → ByteArray) (A : Nat → Option Addr) (L C : Nat → Nat) (N : Nat → Int) (X : Int) (w : World) (h : RowAt w R (tl + bl + il + zn) (rowV tl bl il S A L C N))
    (hn : tl + bl + il + zn ≤ 1048576) (hs : sumN (fun i => (S i).size) tl + sumN L bl ≤ 4194304) (hX : X = 16 * ((tl : Int) + bl + il + zn) + (sumN (fun i => (S i).size) tl : Nat) + (sumN L bl : Nat)) :
    Calls Trym.prog 8 #[.pointer (some ⟨R, 0, none⟩)] w fun e w' => e = .returned (.int .i64 X) ∧ w' = w := by
  refine (size_any R _ _ w h hn (by rw [rowV_sum]; exact hs)).mono fun e w' ⟨he, hw⟩ => ⟨?_, hw⟩
  rw [he, rowV_sum, hX]
  congr 2
  omega
end Go.Proofs.Qxb6616736aMods

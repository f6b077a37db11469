import Derived.Test.Qxb6616021aModsPass
import Derived.Deep.QuietTactic
import Derived.BigQuiet
namespace Go.Proofs.Qxb6616021aMods
open Go.ChangeShapes Go.WideShapes Go.ChangeAt Go.RowKit Go.Maps Go.WideMaps

/-- The cells of a task, as far as place reads them. -/
structure TaskArg (arr : Array Value) (q : ByteArray) (n : Int) : Prop where
  size : arr.size = 21
  c0 : arr[0]? = some (.string q)
  c2 : arr[2]? = some (.int .u64 (tns n))
  c3 : arr[3]? = some (.int .i64 (tsec n))
  c4 : arr[4]? = some (.pointer none)

/-- The pass that lies in block pb over the queue in block g and the places in block m. -/
structure PassAt (w : World) (pb g m len : Nat) (S : Nat → ByteArray) (N : Nat → Int) : Prop where
  tasks : w.cell? ⟨pb, 8, none⟩ = some (.slice (some ⟨g, 0, none⟩) len len)
  at' : w.cell? ⟨pb, 11, none⟩ = some (.map (some m))
  own : w.ownsMap Trym.prog 9 (plainElem Trym.prog 3) m len (placesTo S len)
  row : ∃ V, w.rowIs g 56 (len * 21) V ∧ Starts V N len
  ap : Apart S len
  small : len ≤ 65536

theorem belowN {B : Nat} {a w : World} (n : Nat) (h : Below B a w) : Below B a (w.drewN n) := ⟨h.os, h.tape, h.output, h.size, h.block⟩

theorem look_int {W : World} {m len : Nat} {D : DataW Unit} (hown : W.ownsMap Trym.prog 9 (plainElem Trym.prog 3) m len D) {q : ByteArray} (hq : q.size ≤ maxLen) {c : Int} (hc : D.atKey (keyL q) (.lit (.int .i64 0)) = .lit (.int .i64 c)) :
    (Instr.lookup 36 (.map (some m)) (.string q) true).run Trym.prog W = .ok (.tuple #[.int .i64 c, .bool (Maps.has D (keyL q))]) W := by
  obtain ⟨v, ps, hrun, hv⟩ := hown.look_ok law9 Trym.underlying36 (zero3 W) (plainElem_int Trym.underlying3 (by decide)) (keyOf_string_mk Trym.underlying9 hq)
  obtain ⟨c', rfl, hc', _⟩ := plainElem_int_inv Trym.underlying3 hv
  rw [hrun]
  have e := congrArg Prod.fst hc'
  have e2 : (DataW.lit (Lit.int .i64 c) : DataW Unit) = .lit (.int .i64 c') := hc.symm.trans e
  simp only [DataW.lit.injEq, Lit.int.injEq, true_and] at e2
  rw [e2]
  rfl

theorem look_no {W : World} {m len : Nat} {S : Nat → ByteArray} (hown : W.ownsMap Trym.prog 9 (plainElem Trym.prog 3) m len (placesTo S len)) {q : ByteArray} (hq : q.size ≤ maxLen) (hno : ∀ i, i < len → S i ≠ q) :
    (Instr.lookup 36 (.map (some m)) (.string q) true).run Trym.prog W = .ok (.tuple #[.int .i64 0, .bool false]) W := by
  have hh : Maps.has (placesTo S len) (keyL q) = false := by
    cases hx : Maps.has (placesTo S len) (keyL q)
    · rfl
    · obtain ⟨i, hi, e⟩ := (has_placesTo S q len).1 hx
      exact absurd e (hno i hi)
  have := look_int hown hq (atKey_of_not_has hh _)
  rwa [hh] at this

theorem look_yes {W : World} {m len : Nat} {S : Nat → ByteArray} (hown : W.ownsMap Trym.prog 9 (plainElem Trym.prog 3) m len (placesTo S len)) {i : Nat} (hi : i < len) (hq : (S i).size ≤ maxLen) (hap : Apart S len) :
    (Instr.lookup 36 (.map (some m)) (.string (S i)) true).run Trym.prog W = .ok (.tuple #[.int .i64 (i : Nat), .bool true]) W := by
  have hh : Maps.has (placesTo S len) (keyL (S i)) = true := (has_placesTo S (S i) len).2 ⟨i, hi, rfl⟩
  have := look_int hown hq (at_placesTo S i _ len hi hap)
  rwa [hh] at this

set_option maxHeartbeats 1000000 in
theorem place_none (pb g m len : Nat) (S : Nat → ByteArray) (N : Nat → Int) (arr : Array Value) (q : ByteArray) (n : Int) (w : World) (h : PassAt w pb g m len S N) (ha : TaskArg arr q n) (hq : q.size ≤ maxLen) (hno : ∀ i, i < len → S i ≠ q) :
    Calls Trym.prog 22 #[.pointer (some ⟨pb, 0, none⟩), .agg arr] w fun e w' => e = .returned (.tuple #[.int .i64 0, .bool false]) ∧ Below w.heap.size w w' := by
  obtain ⟨hc8, hc11, hown, hrow, hap, hsm⟩ := h
  obtain ⟨a0, a1, a2, a3, a4⟩ := ha
  have hlk : ∀ o, (Instr.lookup 36 (.map (some m)) (.string q) true).run Trym.prog (w.alloc o).drew = .ok (.tuple #[.int .i64 0, .bool false]) (w.alloc o).drew := fun o => look_no ((hown.alloc o).drew) hq hno
  have hpb : pb < w.heap.size := World.block_lt_of_cell? w _ hc11
  clear hap hno hrow hown hc8
  go_enter Trym.func22, Trym.ntmps22
  go_wp2
  clear a0
  go_region
  go_wp2
  go_quiet (fail)
  go_wp2
  go_ret2
  exact ⟨rfl, belowN _ ((Below.refl _ _).alloc (Nat.le_refl _) _).drew⟩

/-- The cells that the test of place reads. -/
abbrev PlaceS (pb g len i c : Nat) (N : Nat → Int) (n : Int) (w' : World) : Prop := w'.cell? ⟨pb, 8, none⟩ = some (.slice (some ⟨g, 0, none⟩) len len) ∧ w'.cell? ⟨g, i * 21 + 2, none⟩ = some (.int .u64 (tns (N i))) ∧ w'.cell? ⟨g, i * 21 + 3, none⟩ = some (.int .i64 (tsec (N i))) ∧ w'.cell? ⟨g, i * 21 + 4, none⟩ = some (.pointer none) ∧ w'.cell? ⟨c, 2, none⟩ = some (.int .u64 (tns n)) ∧ w'.cell? ⟨c, 3, none⟩ = some (.int .i64 (tsec n)) ∧ w'.cell? ⟨c, 4, none⟩ = some (.pointer none)
theorem placeS_below {pb g len i c B : Nat} {N : Nat → Int} {n : Int} {W w2 : World} (h : PlaceS pb g len i c N n W) (hb : Below B W w2) (h1 : pb < B) (h2 : g < B) (h3 : c < B) : PlaceS pb g len i c N n w2 :=
  ⟨(hb.cell (p := ⟨pb, 8, none⟩) h1).trans h.1, (hb.cell (p := ⟨g, i * 21 + 2, none⟩) h2).trans h.2.1, (hb.cell (p := ⟨g, i * 21 + 3, none⟩) h2).trans h.2.2.1, (hb.cell (p := ⟨g, i * 21 + 4, none⟩) h2).trans h.2.2.2.1,
    (hb.cell (p := ⟨c, 2, none⟩) h3).trans h.2.2.2.2.1, (hb.cell (p := ⟨c, 3, none⟩) h3).trans h.2.2.2.2.2.1, (hb.cell (p := ⟨c, 4, none⟩) h3).trans h.2.2.2.2.2.2⟩

set_option maxHeartbeats 1000000 in
theorem place_some (pb g m len : Nat) (S : Nat → ByteArray) (N : Nat → Int) (arr : Array Value) (i : Nat) (n : Int) (w : World) (h : PassAt w pb g m len S N) (ha : TaskArg arr (S i) n) (hi : i < len) (hq : (S i).size ≤ maxLen) (hn : (N i == n) = true) :
    Calls Trym.prog 22 #[.pointer (some ⟨pb, 0, none⟩), .agg arr] w fun e w' => e = .returned (.tuple #[.int .i64 (i : Nat), .bool true]) ∧ Below w.heap.size w w' := by
  obtain ⟨hc8, hc11, hown, ⟨V, hrow, hst⟩, hap, hsm⟩ := h
  obtain ⟨a0, a1, a2, a3, a4⟩ := ha
  have hlk : ∀ o, (Instr.lookup 36 (.map (some m)) (.string (S i)) true).run Trym.prog (w.alloc o).drew = .ok (.tuple #[.int .i64 (i : Nat), .bool true]) (w.alloc o).drew := fun o => look_yes ((hown.alloc o).drew) hi hq hap
  have hpb : pb < w.heap.size := World.block_lt_of_cell? w _ hc11
  have hg : g < w.heap.size := hrow.lt
  have r2 : w.cell? ⟨g, i * 21 + 2, none⟩ = some (.int .u64 (tns (N i))) := by rw [hrow.cell (by omega), (hst i hi).1]
  have r3 : w.cell? ⟨g, i * 21 + 3, none⟩ = some (.int .i64 (tsec (N i))) := by rw [hrow.cell (by omega), (hst i hi).2.1]
  have r4 : w.cell? ⟨g, i * 21 + 4, none⟩ = some (.pointer none) := by rw [hrow.cell (by omega), (hst i hi).2.2]
  have hi' : ((i : Nat) : Int) < (len : Int) := by omega
  clear hap hrow hown hst
  go_enter Trym.func22, Trym.ntmps22
  go_wp2
  clear a0
  go_region
  go_wp2
  have HS : Hid (PlaceS pb g len i w.heap.size N n (w.alloc (Obj.cells arr 56)).drew.drew) := by
    show PlaceS pb g len i w.heap.size N n (w.alloc (Obj.cells arr 56))
    refine ⟨?_, ?_, ?_, ?_, ?_, ?_, ?_⟩ <;> simp [World.cell?_alloc_past, hc8, r2, r3, r4, hpb, hg, a2, a3, a4]
  go_region_held3 (fun w' => w'.cell? ⟨pb, 8, none⟩ = some (.slice (some ⟨g, 0, none⟩) len len) ∧ w'.cell? ⟨g, i * 21 + 2, none⟩ = some (.int .u64 (tns (N i))) ∧ w'.cell? ⟨g, i * 21 + 3, none⟩ = some (.int .i64 (tsec (N i))) ∧ w'.cell? ⟨g, i * 21 + 4, none⟩ = some (.pointer none) ∧ w'.cell? ⟨w.heap.size, 2, none⟩ = some (.int .u64 (tns n)) ∧ w'.cell? ⟨w.heap.size, 3, none⟩ = some (.int .i64 (tsec n)) ∧ w'.cell? ⟨w.heap.size, 4, none⟩ = some (.pointer none)) (first | exact hS2 | exact HS.out)
    ((go_at_call 26; refine (equal_any (N i) n _).mono ?_; rintro e w2 ⟨rfl, hb2⟩; have hS2 := placeS_below HS.out hb2 (by show pb < (w.alloc (Obj.cells arr 56)).heap.size; simp; omega) (by show g < (w.alloc (Obj.cells arr 56)).heap.size; simp; omega) (by show w.heap.size < (w.alloc (Obj.cells arr 56)).heap.size; simp)))
  go_wp2
  go_ret2
  exact ⟨rfl, ((((Below.refl _ _).alloc (Nat.le_refl _) _).drew.drew.trans (hb2.mono (by show w.heap.size ≤ (w.alloc (Obj.cells arr 56)).heap.size; simp))))⟩
set_option maxHeartbeats 1000000 in
theorem place_other (pb g m len : Nat) (S : Nat → ByteArray) (N : Nat → Int) (arr : Array Value) (i : Nat) (n : Int) (w : World) (h : PassAt w pb g m len S N) (ha : TaskArg arr (S i) n) (hi : i < len) (hq : (S i).size ≤ maxLen) (hn : (N i == n) = false) :
    Calls Trym.prog 22 #[.pointer (some ⟨pb, 0, none⟩), .agg arr] w fun e w' => e = .returned (.tuple #[.int .i64 0, .bool false]) ∧ Below w.heap.size w w' := by
  obtain ⟨hc8, hc11, hown, ⟨V, hrow, hst⟩, hap, hsm⟩ := h
  obtain ⟨a0, a1, a2, a3, a4⟩ := ha
  have hlk : ∀ o, (Instr.lookup 36 (.map (some m)) (.string (S i)) true).run Trym.prog (w.alloc o).drew = .ok (.tuple #[.int .i64 (i : Nat), .bool true]) (w.alloc o).drew := fun o => look_yes ((hown.alloc o).drew) hi hq hap
  have hpb : pb < w.heap.size := World.block_lt_of_cell? w _ hc11
  have hg : g < w.heap.size := hrow.lt
  have r2 : w.cell? ⟨g, i * 21 + 2, none⟩ = some (.int .u64 (tns (N i))) := by rw [hrow.cell (by omega), (hst i hi).1]
  have r3 : w.cell? ⟨g, i * 21 + 3, none⟩ = some (.int .i64 (tsec (N i))) := by rw [hrow.cell (by omega), (hst i hi).2.1]
  have r4 : w.cell? ⟨g, i * 21 + 4, none⟩ = some (.pointer none) := by rw [hrow.cell (by omega), (hst i hi).2.2]
  have hi' : ((i : Nat) : Int) < (len : Int) := by omega
  clear hap hrow hown hst
  go_enter Trym.func22, Trym.ntmps22
  go_wp2
  clear a0
  go_region
  go_wp2
  have HS : Hid (PlaceS pb g len i w.heap.size N n (w.alloc (Obj.cells arr 56)).drew.drew) := by
    show PlaceS pb g len i w.heap.size N n (w.alloc (Obj.cells arr 56))
    refine ⟨?_, ?_, ?_, ?_, ?_, ?_, ?_⟩ <;> simp [World.cell?_alloc_past, hc8, r2, r3, r4, hpb, hg, a2, a3, a4]
  go_region_held3 (fun w' => w'.cell? ⟨pb, 8, none⟩ = some (.slice (some ⟨g, 0, none⟩) len len) ∧ w'.cell? ⟨g, i * 21 + 2, none⟩ = some (.int .u64 (tns (N i))) ∧ w'.cell? ⟨g, i * 21 + 3, none⟩ = some (.int .i64 (tsec (N i))) ∧ w'.cell? ⟨g, i * 21 + 4, none⟩ = some (.pointer none) ∧ w'.cell? ⟨w.heap.size, 2, none⟩ = some (.int .u64 (tns n)) ∧ w'.cell? ⟨w.heap.size, 3, none⟩ = some (.int .i64 (tsec n)) ∧ w'.cell? ⟨w.heap.size, 4, none⟩ = some (.pointer none)) (first | exact hS2 | exact HS.out)
    ((go_at_call 26; refine (equal_any (N i) n _).mono ?_; rintro e w2 ⟨rfl, hb2⟩; have hS2 := placeS_below HS.out hb2 (by show pb < (w.alloc (Obj.cells arr 56)).heap.size; simp; omega) (by show g < (w.alloc (Obj.cells arr 56)).heap.size; simp; omega) (by show w.heap.size < (w.alloc (Obj.cells arr 56)).heap.size; simp)))
  go_wp2
  go_ret2
  exact ⟨rfl, ((((Below.refl _ _).alloc (Nat.le_refl _) _).drew.drew.trans (hb2.mono (by show w.heap.size ≤ (w.alloc (Obj.cells arr 56)).heap.size; simp))))⟩

set_option maxHeartbeats 400000 in
theorem newPass_any (v m : Value) (w : World) (g len b : Nat) (hv : v = .slice (some ⟨g, 0, none⟩) len len) (hm : m = .map (some b)) :
    Calls Trym.prog 16 #[v, m] w fun e w' => e = .returned (.pointer (some ⟨w.heap.size, 0, none⟩)) ∧ Below w.heap.size w w' ∧ w'.cell? ⟨w.heap.size, 8, none⟩ = some v ∧ w'.cell? ⟨w.heap.size, 11, none⟩ = some m := by
  subst hv hm
  go_enter Trym.func16, Trym.ntmps16
  go_wp2
  go_ret
  exact ⟨rfl, (Below.refl _ _).alloc (Nat.le_refl _) _, by simp, by simp⟩

theorem size56 (l : List Value) (h : l.length = 21) : (Trym.prog.info? 56).map (·.size) = some l.length := by rw [h]; kernel_rfl

set_option maxHeartbeats 400000 in
theorem passPlace_any (pb : Nat) (l : List Value) (w : World) (hsz : l.length = 21) (x : Int) (y : Bool)
    (hc : ∀ w1, Below w.heap.size w w1 → Calls Trym.prog 22 #[.pointer (some ⟨pb, 0, none⟩), .agg l.toArray] w1 fun e w' => e = .returned (.tuple #[.int .i64 x, .bool y]) ∧ Below w1.heap.size w1 w') :
    Calls Trym.prog 17 #[.pointer (some ⟨pb, 0, none⟩), .agg l.toArray] w fun e w' => e = .returned (.tuple #[.int .i64 x, .bool y]) ∧ Below w.heap.size w w' := by
  have hra : (w.alloc (.cells l.toArray 56)).rangeAt w.heap.size 0 l := fun j v hv => by
    rw [Nat.zero_add]
    simpa using hv
  have HC : Hid (∀ w1, Below w.heap.size w w1 → Calls Trym.prog 22 #[.pointer (some ⟨pb, 0, none⟩), .agg l.toArray] w1 fun e w' => e = .returned (.tuple #[.int .i64 x, .bool y]) ∧ Below w1.heap.size w1 w') := hc
  clear hc
  have hal : Below w.heap.size w (w.alloc (.cells l.toArray 56)) := (Below.refl _ _).alloc (Nat.le_refl _) _
  go_enter Trym.func17, Trym.ntmps17
  go_wp2_with (refine wpList_load_mid rfl 56 _ rfl w.heap.size 0 rfl l _ hra Trym.underlying56 rfl (size56 l hsz) ?_)
  refine (HC.out _ hal).mono ?_
  rintro e w2 ⟨rfl, hb2⟩
  go_wp2
  go_ret2
  exact ⟨rfl, hal.trans (hb2.mono hal.size)⟩
end Go.Proofs.Qxb6616021aMods

import Derived.Test.Qxb6616021aModsGuards
import Derived.Maps.OwnSet
import Derived.Deep.OwnRows
import Derived.Deep.MidRow
namespace Go.Proofs.Qxb6616021aMods
open Go.ChangeShapes Go.WideShapes Go.ChangeAt Go.RowKit Go.Maps Go.WideMaps

def keyL (s : ByteArray) : Lit := .string s.data.toList
/-- The places by type, as the call has laid them after k rounds. -/
def placesTo (S : Nat → ByteArray) : Nat → DataW Unit
  | 0 => .map []
  | k + 1 => (placesTo S k).put (keyL (S k)) (.lit (.int .i64 (k : Nat)))

theorem law9 : Keyed Trym.prog 9 := string_keyed Trym.underlying9
theorem zero3 (w : World) : (zeroValue 3).run Trym.prog w = .ok (.int .i64 0) w := by kernel_rfl
theorem info56 : (Trym.prog.info? 56).map (fun i => (i.size, i.bytes)) = some (21, 256) := by kernel_rfl
theorem zero56 : ((Trym.prog.info? 56).bind (fun i => i.zero)).isSome = true := by kernel_rfl

theorem make56 (len : Nat) (h : len ≤ 65536) : ∃ cz : Array Value, cz.size = len * 21 ∧ ∀ W : World, (Instr.makeSlice 35 (.int .i64 (len : Int)) (.int .i64 (len : Int))).run Trym.prog W = .ok (.slice (some ⟨W.heap.size, 0, none⟩) len len) (W.alloc (.cells cz 56)) := by
  obtain ⟨i, hi, hp⟩ := Option.map_eq_some_iff.1 info56
  simp only [Prod.mk.injEq] at hp
  have hz := zero56
  rw [hi] at hz
  obtain ⟨z, hz⟩ := Option.isSome_iff_exists.1 hz
  refine ⟨madeCells z.cells (len * 21), size_madeCells _ _, fun W => ?_⟩
  have hr := run_make (P := Trym.prog) W 35 56 i z Trym.underlying35 hi hz .i64 .i64 len len (by omega) (Int.le_refl _) (by rw [hp.2]; omega) (by omega)
  rw [hp.1] at hr
  simpa using hr

theorem rowIs_new (W : World) (cz : Array Value) (n : Nat) (h : cz.size = n) (t : TypeId) : (W.alloc (.cells cz t)).rowIs W.heap.size t n (fun j => cz.getD j undef) := by
  subst h
  refine World.rowIs_alloc W cz t _ fun i hi => ?_
  simp [hi, Array.getD]

/-- Of the first k tasks of the queue the Start is the time so many nanoseconds after the zero time. -/
def Starts (V : Nat → Value) (N : Nat → Int) (k : Nat) : Prop := ∀ i, i < k → V (i * 21 + 2) = .int .u64 (tns (N i)) ∧ V (i * 21 + 3) = .int .i64 (tsec (N i)) ∧ V (i * 21 + 4) = .pointer none
/-- The first k strings are all different. -/
def Apart (S : Nat → ByteArray) (k : Nat) : Prop := ∀ i j, i < j → j < k → S i ≠ S j

/-- A store of nine cells or more, under a name of its own: so that the walk does not open it cell by cell. -/
def stRow (a : Addr) (vs : List Value) : Sem Unit := storeCells a vs 0
theorem stRow_eq : ∀ (a : Addr) (v0 v1 v2 v3 v4 v5 v6 v7 v8 : Value) (r : List Value), storeCells a (v0 :: v1 :: v2 :: v3 :: v4 :: v5 :: v6 :: v7 :: v8 :: r) 0 = stRow a (v0 :: v1 :: v2 :: v3 :: v4 :: v5 :: v6 :: v7 :: v8 :: r) := fun _ _ _ _ _ _ _ _ _ _ _ => rfl
theorem run_stRow (W : World) (g o : Nat) (vs : List Value) (ht : W.there g o vs.length) (h1 : ∀ v ∈ vs, v.oneCell' = true) : (stRow ⟨g, o, none⟩ vs).run Trym.prog W = .ok () (W.setCells g o vs) := by
  have := run_storeCells_cells (P := Trym.prog) g o vs 0 W (fun j hj => by simpa using (ht j hj).1) (fun j hj => by simpa using (ht j hj).2) h1
  simpa [stRow] using this
/-- The cells of a task with this type and this Start. -/
abbrev taskCells (s : ByteArray) (x y : Int) : List Value := [.string s, .string ⟨#[]⟩, .int .u64 x, .int .i64 y, .pointer none, .string ⟨#[]⟩, .string ⟨#[]⟩, .string ⟨#[]⟩, .slice none 0 0, .slice none 0 0, .int .i64 0, .int .i64 0, .pointer none, .int .u64 0, .int .i64 0, .pointer none, .int .i64 0, .pointer none, .slice none 0 0, .bool false, .pointer none]
theorem run_stTask (W : World) (g k n : Nat) (V : Nat → Value) (s : ByteArray) (x y : Int) (h : W.rowIs g 56 n V) (hk : k * 21 + 21 ≤ n) :
    (stRow ⟨g, k * 21, none⟩ [.string s, .string ⟨#[]⟩, .int .u64 x, .int .i64 y, .pointer none, .string ⟨#[]⟩, .string ⟨#[]⟩, .string ⟨#[]⟩, .slice none 0 0, .slice none 0 0, .int .i64 0, .int .i64 0, .pointer none, .int .u64 0, .int .i64 0, .pointer none, .int .i64 0, .pointer none, .slice none 0 0, .bool false, .pointer none]).run Trym.prog W = .ok () (W.setCells g (k * 21) (taskCells s x y)) := by
  refine run_stRow W g (k * 21) (taskCells s x y) (fun j hj => ?_) (by simp [taskCells, Value.oneCell'])
  have hj' : j < 21 := hj
  exact ⟨by rw [h.cell (i := k * 21 + j) (by omega)]; rfl, h.frozen _⟩

theorem World.cell?_setCells_far (w : World) (g o : Nat) (vs : List Value) (a : Addr) (h : a.block ≠ g) : (w.setCells g o vs).cell? a = w.cell? a :=
  World.cell?_setCells_out g vs o w a (fun h1 => absurd h1 h)


theorem heap_setCells (g i : Nat) (h : i ≠ g) : ∀ (vs : List Value) (o : Nat) (w : World), (w.setCells g o vs).heap[i]? = w.heap[i]?
  | [], _, _ => rfl
  | v :: r, o, w => by
    rw [World.setCells, heap_setCells g i h r (o + 1)]
    exact Below.heap_setCell w ⟨g, o, none⟩ v i h

theorem below_setCells {B : Nat} {a : World} (g : Nat) (hg : B ≤ g) : ∀ (vs : List Value) (o : Nat) (w : World), Below B a w → Below B a (w.setCells g o vs)
  | [], _, _, h => h
  | v :: r, o, w, h => by
    rw [World.setCells]
    exact below_setCells g hg r (o + 1) _ (h.setCell (p := ⟨g, o, none⟩) hg v)

/-- What a row holds behind a store of several cells. -/
def splice (V : Nat → Value) (o : Nat) (vs : List Value) (j : Nat) : Value := if o ≤ j then (vs[j - o]?).getD (V j) else V j

theorem rowIs_setCells (g : Nat) (t : TypeId) (n : Nat) : ∀ (vs : List Value) (o : Nat) (w : World) (V : Nat → Value), w.rowIs g t n V → (w.setCells g o vs).rowIs g t n (splice V o vs)
  | [], o, w, V, h => h.congr fun i _ => by simp [splice]
  | v :: r, o, w, V, h => by
    rw [World.setCells]
    refine (rowIs_setCells g t n r (o + 1) _ _ (h.set o v)).congr fun i _ => ?_
    unfold splice
    by_cases h1 : o + 1 ≤ i
    · rw [if_pos h1, if_pos (by omega)]
      have e : i - o = (i - (o + 1)) + 1 := by omega
      rw [e, List.getElem?_cons_succ]
      have hne : i ≠ o := by omega
      simp [hne]
    · rw [if_neg h1]
      by_cases h2 : i = o
      · subst h2
        simp
      · show (if i = o then v else V i) = _
        rw [if_neg h2, if_neg (by omega)]

theorem ownsMap_of_block {H : Type} {P : Program} {k : TypeId} {R : Value → Option (DataW H × List MemPlace)} {w w' : World} {b n : Nat} {D : DataW H} (h : w.ownsMap P k R b n D) (e : w'.heap[b]? = w.heap[b]?) : w'.ownsMap P k R b n D := by
  obtain ⟨es, clock, hb, r⟩ := h
  exact ⟨es, clock, e.trans hb, r⟩

theorem keyL_inj {s t : ByteArray} (h : keyL s = keyL t) : s = t := by
  unfold keyL at h
  simp only [Lit.string.injEq] at h
  have := Array.toList_inj.1 h
  cases s; cases t; simp at this; rw [this]

theorem keyL_isKey (s : ByteArray) : WideAt.IsKeyLit (keyL s) := trivial

theorem isMap_placesTo (S : Nat → ByteArray) : ∀ k, IsMap (placesTo S k)
  | 0 => isMap_empty
  | k + 1 => (isMap_placesTo S k).put _ _

theorem has_placesTo (S : Nat → ByteArray) (q : ByteArray) : ∀ k, Maps.has (placesTo S k) (keyL q) = true ↔ ∃ i, i < k ∧ S i = q
  | 0 => by simp [placesTo, Maps.has]
  | k + 1 => by
    rw [placesTo]
    by_cases e : S k = q
    · subst e
      rw [has_put_same (isMap_placesTo S k) (keyL_isKey _)]
      exact ⟨fun _ => ⟨k, Nat.lt_succ_self _, rfl⟩, fun _ => rfl⟩
    · rw [has_put_other (fun h => e (keyL_inj h).symm), has_placesTo S q k]
      constructor
      · rintro ⟨i, hi, h⟩; exact ⟨i, by omega, h⟩
      · rintro ⟨i, hi, h⟩
        refine ⟨i, ?_, h⟩
        rcases Nat.lt_succ_iff_lt_or_eq.1 hi with h' | rfl
        · exact h'
        · exact absurd h e

theorem at_placesTo (S : Nat → ByteArray) (i : Nat) (z : DataW Unit) : ∀ k, i < k → Apart S k → (placesTo S k).atKey (keyL (S i)) z = .lit (.int .i64 (i : Nat))
  | 0, hi, _ => absurd hi (Nat.not_lt_zero _)
  | k + 1, hi, ha => by
    rw [placesTo]
    by_cases e : i = k
    · subst e
      exact atKey_put_same (isMap_placesTo S i) (keyL_isKey _) _ _
    · rw [atKey_put_other (fun h => ha i k (by omega) (Nat.lt_succ_self _) (keyL_inj h))]
      exact at_placesTo S i z k (by omega) (fun a b hab hb => ha a b hab (by omega))

theorem apart_succ {S : Nat → ByteArray} {k : Nat} (h : Apart S k) (hh : Maps.has (placesTo S k) (keyL (S k)) = false) : Apart S (k + 1) := fun i j hij hj => by
  rcases Nat.lt_succ_iff_lt_or_eq.1 hj with h' | rfl
  · exact h i j hij h'
  · intro e
    have := (has_placesTo S (S j) j).2 ⟨i, hij, e⟩
    rw [hh] at this
    cases this

theorem starts_succ {V : Nat → Value} {N : Nat → Int} {k : Nat} (s : ByteArray) (h : Starts V N k) : Starts (splice V (k * 21) (taskCells s (tns (N k)) (tsec (N k)))) N (k + 1) := fun i hi => by
  rcases Nat.lt_succ_iff_lt_or_eq.1 hi with h' | rfl
  · obtain ⟨h1, h2, h3⟩ := h i h'
    unfold splice
    rw [if_neg (by omega), if_neg (by omega), if_neg (by omega)]
    exact ⟨h1, h2, h3⟩
  · unfold splice
    rw [if_pos (by omega), if_pos (by omega), if_pos (by omega), show i * 21 + 2 - i * 21 = 2 by omega, show i * 21 + 3 - i * 21 = 3 by omega, show i * 21 + 4 - i * 21 = 4 by omega]
    exact ⟨rfl, rfl, rfl⟩

/-- What zzPassInputs leaves. -/
def PassPost (w : World) (len : Nat) (S : Nat → ByteArray) (N : Nat → Int) (e : Ending) (w' : World) : Prop :=
  Below w.heap.size w w' ∧ (e = .returned (.tuple #[.slice none 0 0, .map none, .bool false]) ∨
    (e = .returned (.tuple #[.slice (some ⟨w.heap.size + 1, 0, none⟩) len len, .map (some w.heap.size), .bool true]) ∧ w'.ownsMap Trym.prog 9 (plainElem Trym.prog 3) w.heap.size len (placesTo S len) ∧
      (∃ V, w'.rowIs (w.heap.size + 1) 56 (len * 21) V ∧ Starts V N len) ∧ Apart S len))
end Go.Proofs.Qxb6616021aMods

import Derived.Laws.Strings
import Derived.Below
import Derived.WideShapes
/- Plain facts: the order of strings, membership by a search, no Go text in sight. -/
namespace Go.Proofs.Qxb6616219aMods
open Go.RowKit Go.WideShapes

theorem bl_irrefl : ∀ x : List UInt8, Op.bytesLess x x = false
  | [] => rfl
  | a :: x => by
    simp only [Op.bytesLess, bl_irrefl x, Bool.and_false, Bool.or_false, decide_eq_false_iff_not]
    exact fun h => absurd h (by simp)

theorem bl_trans : ∀ x y z : List UInt8, Op.bytesLess x y = true → Op.bytesLess y z = true → Op.bytesLess x z = true
  | _, _, [], _, h => by simp [Op.bytesLess] at h
  | _, [], _ :: _, h, _ => by simp [Op.bytesLess] at h
  | [], _ :: _, _ :: _, _, _ => rfl
  | a :: x, b :: y, c :: z, h1, h2 => by
    simp only [Op.bytesLess, Bool.or_eq_true, decide_eq_true_eq, Bool.and_eq_true, beq_iff_eq, UInt8.lt_iff_toNat_lt] at h1 h2 ⊢
    rcases h1 with h1 | ⟨rfl, h1⟩
    · rcases h2 with h2 | ⟨rfl, h2⟩
      · exact Or.inl (by omega)
      · exact Or.inl h1
    · rcases h2 with h2 | ⟨rfl, h2⟩
      · exact Or.inl h2
      · exact Or.inr ⟨rfl, bl_trans x y z h1 h2⟩

theorem bl_total : ∀ x y : List UInt8, Op.bytesLess x y = false → Op.bytesLess y x = false → x = y
  | [], [], _, _ => rfl
  | [], _ :: _, h, _ => by simp [Op.bytesLess] at h
  | _ :: _, [], _, h => by simp [Op.bytesLess] at h
  | a :: x, b :: y, h1, h2 => by
    simp only [Op.bytesLess, Bool.or_eq_false_iff, decide_eq_false_iff_not, UInt8.lt_iff_toNat_lt] at h1 h2
    have e : a = b := UInt8.toNat_inj.1 (by omega)
    subst e
    have h1' := h1.2
    have h2' := h2.2
    simp only [beq_self_eq_true, Bool.true_and] at h1' h2'
    rw [bl_total x y h1' h2']

/-- Go's '<' on strings. -/
def less (x y : ByteArray) : Bool := Op.bytesLess x.toList y.toList
theorem less_irrefl (x : ByteArray) : less x x = false := bl_irrefl _
theorem less_trans {x y z : ByteArray} (h1 : less x y = true) (h2 : less y z = true) : less x z = true := bl_trans _ _ _ h1 h2
theorem str_eq {s t : ByteArray} (h : (s.toList == t.toList) = true) : s = t := by
  have h' : s.toList = t.toList := by simpa using h
  rw [ByteArray.toList_eq, ByteArray.toList_eq] at h'
  exact bytes_inj h'
theorem str_ne {s t : ByteArray} (h : (s.toList == t.toList) = false) : s ≠ t := fun e => by
  subst e
  simp at h
theorem less_total {x y : ByteArray} (h1 : less x y = false) (h2 : less y x = false) : x = y :=
  str_eq (by rw [bl_total _ _ h1 h2]; simp)

/-- The first len strings ascend strictly. -/
def Asc (S : Nat → ByteArray) (len : Nat) : Prop := ∀ i, i + 1 < len → less (S i) (S (i + 1)) = true
theorem asc_lt {S : Nat → ByteArray} {len : Nat} (h : Asc S len) : ∀ j i, i < j → j < len → less (S i) (S j) = true
  | 0, _, hi, _ => absurd hi (Nat.not_lt_zero _)
  | j + 1, i, hi, hj => by
    rcases Nat.lt_succ_iff_lt_or_eq.1 hi with h' | rfl
    · exact less_trans (asc_lt h j i h' (by omega)) (h j hj)
    · exact h i hj

/-- Is x among the first len strings? -/
def hasB (S : Nat → ByteArray) (len : Nat) (x : ByteArray) : Bool := (List.range len).any fun i => (S i).toList == x.toList
theorem hasB_iff {S : Nat → ByteArray} {len : Nat} {x : ByteArray} : hasB S len x = true ↔ ∃ i, i < len ∧ S i = x := by
  unfold hasB
  rw [List.any_eq_true]
  constructor
  · rintro ⟨i, hi, h⟩
    exact ⟨i, by simpa using hi, str_eq h⟩
  · rintro ⟨i, hi, rfl⟩
    exact ⟨i, by simpa using hi, by simp⟩
theorem hasB_hit {S : Nat → ByteArray} {len : Nat} {x : ByteArray} {i : Nat} (hi : i < len) (h : S i = x) : hasB S len x = true := hasB_iff.2 ⟨i, hi, h⟩
theorem hasB_none {S : Nat → ByteArray} {len : Nat} {x : ByteArray} (h : ∀ i, i < len → S i ≠ x) : hasB S len x = false := by
  cases e : hasB S len x
  · rfl
  · obtain ⟨i, hi, h'⟩ := hasB_iff.1 e
    exact absurd h' (h i hi)

/-- Is each of the first ml strings of M among the first len of S? -/
def allB (M : Nat → ByteArray) (ml : Nat) (S : Nat → ByteArray) (len : Nat) : Bool := (List.range ml).all fun i => hasB S len (M i)
theorem allB_iff {M : Nat → ByteArray} {ml : Nat} {S : Nat → ByteArray} {len : Nat} : allB M ml S len = true ↔ ∀ i, i < ml → hasB S len (M i) = true := by
  unfold allB
  rw [List.all_eq_true]
  exact ⟨fun h i hi => h i (by simpa using hi), fun h i hi => h i (by simpa using hi)⟩
theorem allB_miss {M : Nat → ByteArray} {ml : Nat} {S : Nat → ByteArray} {len : Nat} {i : Nat} (hi : i < ml) (h : hasB S len (M i) = false) : allB M ml S len = false := by
  cases e : allB M ml S len
  · rfl
  · have := allB_iff.1 e i hi
    rw [h] at this
    cases this
theorem allB_one (v : ByteArray) (S : Nat → ByteArray) (len : Nat) : allB (fun _ => v) 1 S len = hasB S len v := by
  simp [allB]

/-- THE BINARY SEARCH's OWN INVARIANT, and what it gives at the end. -/
structure Halved (S : Nat → ByteArray) (n : Nat) (x : ByteArray) (lo hi : Nat) : Prop where
  below : ∀ t, t < lo → less (S t) x = true
  above : ∀ t, hi ≤ t → t < n → less (S t) x = false
theorem halved_start (S : Nat → ByteArray) (n : Nat) (x : ByteArray) : Halved S n x 0 n := ⟨fun t h => absurd h (Nat.not_lt_zero t), fun t h1 h2 => absurd h1 (by omega)⟩
theorem halved_up {S : Nat → ByteArray} {n : Nat} {x : ByteArray} {lo hi h : Nat} (H : Halved S n x lo hi) (ha : Asc S n) (hn : h < n) (hl : less (S h) x = true) : Halved S n x (h + 1) hi :=
  ⟨fun t ht => by
    rcases Nat.lt_succ_iff_lt_or_eq.1 ht with h' | rfl
    · exact less_trans (asc_lt ha h t h' hn) hl
    · exact hl, H.above⟩
theorem halved_down {S : Nat → ByteArray} {n : Nat} {x : ByteArray} {lo hi h : Nat} (H : Halved S n x lo hi) (ha : Asc S n) (hl : less (S h) x = false) : Halved S n x lo h :=
  ⟨H.below, fun t h1 h2 => by
    rcases Nat.eq_or_lt_of_le h1 with rfl | h'
    · exact hl
    · cases e : less (S t) x
      · rfl
      · rw [less_trans (asc_lt ha t h h' h2) e] at hl
        cases hl⟩
theorem halved_out {S : Nat → ByteArray} {n : Nat} {x : ByteArray} {i : Nat} (H : Halved S n x i i) (hn : n ≤ i) : hasB S n x = false :=
  hasB_none fun t ht e => by
    have := H.below t (by omega)
    rw [e, less_irrefl] at this
    cases this
theorem halved_miss {S : Nat → ByteArray} {n : Nat} {x : ByteArray} {i : Nat} (H : Halved S n x i i) (ha : Asc S n) (hn : i < n) (hne : S i ≠ x) : hasB S n x = false :=
  hasB_none fun t ht e => by
    rcases Nat.lt_trichotomy t i with h | rfl | h
    · have := H.below t h
      rw [e, less_irrefl] at this
      cases this
    · exact hne e
    · have h1 := H.above i (Nat.le_refl _) hn
      have h2 := asc_lt ha t i h ht
      rw [e, h1] at h2
      cases h2
end Go.Proofs.Qxb6616219aMods

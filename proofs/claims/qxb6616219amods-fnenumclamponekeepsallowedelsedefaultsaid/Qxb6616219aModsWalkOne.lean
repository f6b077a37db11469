import Derived.Test.Qxb6616219aModsCopy
namespace Go.Proofs.Qxb6616219aMods
open Go.ChangeShapes Go.WideShapes Go.ChangeAt Go.RowKit

set_option maxHeartbeats 2000000 in
set_option maxRecDepth 100000 in
theorem walk3 (a : Option Addr) (len cap : Nat) (S : Nat → ByteArray) (da : Option Addr) (dl dc : Nat) (D : Nat → ByteArray) (v : ByteArray) (w : World) (hS : StrArr w a len S) (hD : StrArr w da dl D) (hv : v.size ≤ maxLen) :
    Calls Trym.prog 3 #[.slice a len cap, .slice da dl dc, .string v] w fun e w' => e = .returned (.bool true) ∧ Below w.heap.size w w' := by
  have hm := hS.small
  have hm2 := hD.small
  have hvm := hv
  unfold maxLen at hm hm2 hvm
  have hnq := fun (W : World) (x : Option Addr) (n c : Nat) => run_neq_slice_nil_any (P := Trym.prog) W 22 9 x n c 0 0 Trym.underlying22
  go_enter Trym.func3, Trym.ntmps3
  go_wp2_with fail
  refine (bytesOne_any a len cap S da dl dc D v _ hS hD hv).mono ?_
  rintro e w1 ⟨⟨B, rfl⟩, hw⟩
  have hw' := hw.symm
  subst hw'
  clear hw
  cases B with
  | false =>
    go_wp2
    go_ret
    exact ⟨rfl, Below.refl _ _⟩
  | true =>
  by_cases h1 : 65536 < (len : Int)
  · go_wp2
    go_ret
    exact ⟨rfl, Below.refl _ _⟩
  have h1' : decide (65536 < (len : Int)) = false := by simpa using h1
  by_cases h2 : 65536 < (dl : Int)
  · go_wp2
    go_ret
    exact ⟨rfl, Below.refl _ _⟩
  have h2' : decide (65536 < (dl : Int)) = false := by simpa using h2
  by_cases h3 : 1048576 < (v.size : Int)
  · go_wp2
    go_ret
    exact ⟨rfl, Below.refl _ _⟩
  have h3' : decide (1048576 < (v.size : Int)) = false := by simpa using h3
  obtain ⟨cz, hcz, hmk⟩ := make9 len (by omega)
  have HCZ : Hid (cz.length = len) := hcz
  clear hcz
  go_upto_if 34 with fail
  go_cut [0] (fun s0 wx => ∃ (a' : Option Addr) (cap' : Nat), s0 = .slice a' len cap' ∧ StrArr wx a' len S ∧ Below w.heap.size w wx)
  case first =>
    have hone := strCells_one S len
    have HL : Hid ((strCells S len).length = len) := length_strCells S len
    cases a with
    | none =>
      go_wp2
      go_meet
      exact ⟨_, _, rfl, hS, Below.refl _ _⟩
    | some ad =>
      have hal : Below w.heap.size w (w.alloc (.cells cz.toArray 9)) := (Below.refl _ _).alloc (Nat.le_refl _) _
      have hgr : (w.alloc (.cells cz.toArray 9)).heap[w.heap.size]? = some (.cells cz.toArray 9 (0, 0)) := heap_alloc_new w _
      go_wp2_with (refine wpList_copy_splice rfl (.tmp 38) (.tmp 39) 22 22 rfl 9 Trym.underlying22 size9 _ _ len len len cap rfl rfl w.heap.size 0 cz 9 hgr (strCells S len) (by rw [HL.out]; simp) (fun hp => ⟨rfl, strCells_src (hS.below hal (Nat.le_refl _)) hp⟩) (by rw [HL.out, HCZ.out]; simp) hone w.heap.size w hal (Nat.le_refl _) ?_; intro w2 hG2 hB2)
      go_meet
      exact ⟨_, _, rfl, strArr_row HCZ.out hG2.out hS.small hS.sizes, hB2⟩
  case rest =>
  obtain ⟨a1, cap1, rfl, hS1, hb1⟩ := hcut
  obtain ⟨wA, rfl⟩ : ∃ wA : World, wA = wc := ⟨_, rfl⟩
  have hD1 := hD.below hb1 (Nat.le_refl _)
  clear hmk HCZ hS
  obtain ⟨cz2, hcz2, hmk2⟩ := make9 dl (by omega)
  have HCZ2 : Hid (cz2.length = dl) := hcz2
  clear hcz2
  go_upto_if 43 with fail
  go_cut [1] (fun s1 wx => ∃ (a' : Option Addr) (cap' : Nat), s1 = .slice a' dl cap' ∧ StrArr wx a' dl D ∧ Below wA.heap.size wA wx)
  case first =>
    have hone := strCells_one D dl
    have HL : Hid ((strCells D dl).length = dl) := length_strCells D dl
    cases da with
    | none =>
      go_wp2
      go_meet
      exact ⟨_, _, rfl, hD1, Below.refl _ _⟩
    | some ad =>
      have hal : Below wA.heap.size wA (wA.alloc (.cells cz2.toArray 9)) := (Below.refl _ _).alloc (Nat.le_refl _) _
      have hgr : (wA.alloc (.cells cz2.toArray 9)).heap[wA.heap.size]? = some (.cells cz2.toArray 9 (0, 0)) := heap_alloc_new wA _
      go_wp2_with (refine wpList_copy_splice rfl (.tmp 47) (.tmp 48) 22 22 rfl 9 Trym.underlying22 size9 _ _ dl dl dl dc rfl rfl wA.heap.size 0 cz2 9 hgr (strCells D dl) (by rw [HL.out]; simp) (fun hp => ⟨rfl, strCells_src (hD1.below hal (Nat.le_refl _)) hp⟩) (by rw [HL.out, HCZ2.out]; simp) hone wA.heap.size wA hal (Nat.le_refl _) ?_; intro w2 hG2 hB2)
      go_meet
      exact ⟨_, _, rfl, strArr_row HCZ2.out hG2.out hD1.small hD1.sizes, hB2⟩
  case rest =>
  obtain ⟨d1, dcap1, rfl, hD2, hb2⟩ := hcut
  obtain ⟨wB, rfl⟩ : ∃ wB : World, wB = wc := ⟨_, rfl⟩
  have hS2 := hS1.below hb2 (Nat.le_refl _)
  have hbb : Below w.heap.size w wB := hb1.trans (hb2.mono hb1.size)
  clear hmk2 HCZ2 hD1 hS1 hb1 hb2 hnq
  go_wp2_with fail
  refine (addBytes_any _ a1 len cap1 S _ hS2 (by omega) (by omega)).mono ?_
  rintro e w1 ⟨⟨t, ht0, ht1, rfl⟩, hw⟩
  have hw' := hw.symm
  subst hw'
  clear hw
  by_cases h4 : 1048576 < t
  · go_wp2
    go_ret
    exact ⟨rfl, hbb⟩
  go_wp2_with fail
  refine (addBytes_any _ d1 dl dcap1 D _ hD2 ht0 (by omega)).mono ?_
  rintro e w1 ⟨⟨t2, ht20, ht21, rfl⟩, hw⟩
  have hw' := hw.symm
  subst hw'
  clear hw
  by_cases h5 : 1048576 < t2
  · go_wp2
    go_ret
    exact ⟨rfl, hbb⟩
  go_wp2_with fail
  refine (validOne_any a1 len cap1 S d1 dl dcap1 D _ hS2 hD2).mono ?_
  rintro e w3 ⟨⟨B, rfl, hB⟩, hb3⟩
  cases B with
  | false =>
    go_wp2
    go_ret
    exact ⟨rfl, hbb.trans (hb3.mono hbb.size)⟩
  | true =>
  obtain ⟨hl0, hA, hdl, hhas⟩ := hB rfl
  subst hdl
  have hS3 := hS2.below hb3 (Nat.le_refl _)
  have hD3 := hD2.below hb3 (Nat.le_refl _)
  have hbb3 : Below w.heap.size w w3 := hbb.trans (hb3.mono hbb.size)
  have HA : Hid (Asc S len) := hA
  have HH : Hid (hasB S len (D 0) = true) := hhas
  clear hA hhas hB hS2 hD2 hb3 hbb
  obtain ⟨b, off, rfl, hbl, hc0⟩ := hD3.at' (by omega)
  have g0 := hc0 0 (by omega)
  rw [Nat.add_zero] at g0
  clear hc0
  have hl1 : (0 : Int) < ((1 : Nat) : Int) := by decide
  go_wp2_with fail
  refine (has_any a1 len cap1 S v _ hS3).mono ?_
  rintro e w4 ⟨rfl, hw⟩
  have hw' := hw.symm
  subst hw'
  clear hw
  have hd0 := hD3.sizes 0 (by omega)
  cases hvB : hasB S len v with
  | true =>
    have HP : Hid (pickOne S len v (D 0) = v) := pickOne_yes hvB
    go_wp2_with fail
    refine (enumOne_any a1 len cap1 S _ dcap1 D v _ hS3 hD3 HA.out (by omega) hv).mono ?_
    rintro e w5 ⟨rfl, hb5⟩
    rw [HP.out]
    go_wp2_with fail
    refine (enumOne_any a1 len cap1 S _ dcap1 D v _ (hS3.below hb5 (Nat.le_refl _)) (hD3.below hb5 (Nat.le_refl _)) HA.out (by omega) hv).mono ?_
    rintro e w6 ⟨rfl, hb6⟩
    rw [HP.out]
    go_wp2
    go_ret
    exact ⟨rfl, (hbb3.trans (hb5.mono hbb3.size)).trans (hb6.mono (Nat.le_trans hbb3.size hb5.size))⟩
  | false =>
    have HP : Hid (pickOne S len v (D 0) = D 0) := pickOne_no hvB
    have HP2 : Hid (pickOne S len (D 0) (D 0) = D 0) := pickOne_yes HH.out
    go_wp2_with fail
    refine (enumOne_any a1 len cap1 S _ dcap1 D v _ hS3 hD3 HA.out (by omega) hv).mono ?_
    rintro e w5 ⟨rfl, hb5⟩
    rw [HP.out]
    go_wp2_with fail
    refine (enumOne_any a1 len cap1 S _ dcap1 D (D 0) _ (hS3.below hb5 (Nat.le_refl _)) (hD3.below hb5 (Nat.le_refl _)) HA.out (by omega) hd0).mono ?_
    rintro e w6 ⟨rfl, hb6⟩
    rw [HP2.out]
    go_wp2
    go_ret
    exact ⟨rfl, (hbb3.trans (hb5.mono hbb3.size)).trans (hb6.mono (Nat.le_trans hbb3.size hb5.size))⟩
end Go.Proofs.Qxb6616219aMods

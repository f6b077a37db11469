import Derived.Test.Qxb6616219aModsCopy
namespace Go.Proofs.Qxb6616219aMods
open Go.ChangeShapes Go.WideShapes Go.ChangeAt Go.RowKit

set_option maxHeartbeats 4000000 in
set_option maxRecDepth 100000 in
theorem walk4 (a : Option Addr) (len cap : Nat) (S : Nat → ByteArray) (da : Option Addr) (dl dc : Nat) (D : Nat → ByteArray) (va : Option Addr) (vl vc : Nat) (V : Nat → ByteArray) (w : World) (hS : StrArr w a len S) (hD : StrArr w da dl D) (hV : StrArr w va vl V) :
    Calls Trym.prog 4 #[.slice a len cap, .slice da dl dc, .slice va vl vc] w fun e w' => e = .returned (.bool true) ∧ Below w.heap.size w w' := by
  have hm := hS.small
  have hm2 := hD.small
  have hm3 := hV.small
  unfold maxLen at hm hm2 hm3
  have hnq := fun (W : World) (x : Option Addr) (n c : Nat) => run_neq_slice_nil_any (P := Trym.prog) W 22 9 x n c 0 0 Trym.underlying22
  go_enter Trym.func4, Trym.ntmps4
  go_wp2_with fail
  refine (bytesAny_any a len cap S da dl dc D va vl vc V _ hS hD hV).mono ?_
  rintro e w1 ⟨⟨B, rfl⟩, hw⟩
  have hw' := hw.symm
  subst hw'
  clear hw
  cases B with
  | false =>
    go_wp2
    go_ret
    exact ⟨rfl, Below.refl _ _⟩
  | true =>
  by_cases h1 : 65536 < (len : Int)
  · go_wp2
    go_ret
    exact ⟨rfl, Below.refl _ _⟩
  have h1' : decide (65536 < (len : Int)) = false := by simpa using h1
  by_cases h2 : 65536 < (dl : Int)
  · go_wp2
    go_ret
    exact ⟨rfl, Below.refl _ _⟩
  have h2' : decide (65536 < (dl : Int)) = false := by simpa using h2
  by_cases h3 : 65536 < (vl : Int)
  · go_wp2
    go_ret
    exact ⟨rfl, Below.refl _ _⟩
  have h3' : decide (65536 < (vl : Int)) = false := by simpa using h3
  obtain ⟨cz, hcz, hmk⟩ := make9 len (by omega)
  have HCZ : Hid (cz.length = len) := hcz
  clear hcz
  go_upto_if 35 with fail
  go_cut [0] (fun s0 wx => ∃ (a' : Option Addr) (cap' : Nat), s0 = .slice a' len cap' ∧ StrArr wx a' len S ∧ Below w.heap.size w wx)
  case first =>
    have hone := strCells_one S len
    have HL : Hid ((strCells S len).length = len) := length_strCells S len
    cases a with
    | none =>
      go_wp2
      go_meet
      exact ⟨_, _, rfl, hS, Below.refl _ _⟩
    | some ad =>
      have hal : Below w.heap.size w (w.alloc (.cells cz.toArray 9)) := (Below.refl _ _).alloc (Nat.le_refl _) _
      have hgr : (w.alloc (.cells cz.toArray 9)).heap[w.heap.size]? = some (.cells cz.toArray 9 (0, 0)) := heap_alloc_new w _
      go_wp2_with (refine wpList_copy_splice rfl (.tmp 39) (.tmp 40) 22 22 rfl 9 Trym.underlying22 size9 _ _ len len len cap rfl rfl w.heap.size 0 cz 9 hgr (strCells S len) (by rw [HL.out]; simp) (fun hp => ⟨rfl, strCells_src (hS.below hal (Nat.le_refl _)) hp⟩) (by rw [HL.out, HCZ.out]; simp) hone w.heap.size w hal (Nat.le_refl _) ?_; intro w2 hG2 hB2)
      go_meet
      exact ⟨_, _, rfl, strArr_row HCZ.out hG2.out hS.small hS.sizes, hB2⟩
  case rest =>
  obtain ⟨a1, cap1, rfl, hS1, hbwA⟩ := hcut
  obtain ⟨wA, rfl⟩ : ∃ wA : World, wA = wc := ⟨_, rfl⟩
  clear hmk HCZ
  have hD1 := hD.below hbwA (Nat.le_refl _)
  have hV1 := hV.below hbwA (Nat.le_refl _)
  clear hS
  obtain ⟨cz2, hcz, hmk⟩ := make9 dl (by omega)
  have HCZ : Hid (cz2.length = dl) := hcz
  clear hcz
  go_upto_if 44 with fail
  go_cut [1] (fun s0 wx => ∃ (a' : Option Addr) (cap' : Nat), s0 = .slice a' dl cap' ∧ StrArr wx a' dl D ∧ Below wA.heap.size wA wx)
  case first =>
    have hone := strCells_one D dl
    have HL : Hid ((strCells D dl).length = dl) := length_strCells D dl
    cases da with
    | none =>
      go_wp2
      go_meet
      exact ⟨_, _, rfl, hD1, Below.refl _ _⟩
    | some ad =>
      have hal : Below wA.heap.size wA (wA.alloc (.cells cz2.toArray 9)) := (Below.refl _ _).alloc (Nat.le_refl _) _
      have hgr : (wA.alloc (.cells cz2.toArray 9)).heap[wA.heap.size]? = some (.cells cz2.toArray 9 (0, 0)) := heap_alloc_new wA _
      go_wp2_with (refine wpList_copy_splice rfl (.tmp 48) (.tmp 49) 22 22 rfl 9 Trym.underlying22 size9 _ _ dl dl dl dc rfl rfl wA.heap.size 0 cz2 9 hgr (strCells D dl) (by rw [HL.out]; simp) (fun hp => ⟨rfl, strCells_src (hD1.below hal (Nat.le_refl _)) hp⟩) (by rw [HL.out, HCZ.out]; simp) hone wA.heap.size wA hal (Nat.le_refl _) ?_; intro w2 hG2 hB2)
      go_meet
      exact ⟨_, _, rfl, strArr_row HCZ.out hG2.out hD1.small hD1.sizes, hB2⟩
  case rest =>
  obtain ⟨d1, dcap1, rfl, hD2, hbwB⟩ := hcut
  obtain ⟨wB, rfl⟩ : ∃ wB : World, wB = wc := ⟨_, rfl⟩
  clear hmk HCZ
  have hS2 := hS1.below hbwB (Nat.le_refl _)
  have hV2 := hV1.below hbwB (Nat.le_refl _)
  have hbb2 : Below w.heap.size w wB := hbwA.trans (hbwB.mono hbwA.size)
  clear hS1 hV1 hD1 hbwA hbwB
  obtain ⟨cz3, hcz, hmk⟩ := make9 vl (by omega)
  have HCZ : Hid (cz3.length = vl) := hcz
  clear hcz
  go_upto_if 53 with fail
  go_cut [2] (fun s0 wx => ∃ (a' : Option Addr) (cap' : Nat), s0 = .slice a' vl cap' ∧ StrArr wx a' vl V ∧ Below wB.heap.size wB wx)
  case first =>
    have hone := strCells_one V vl
    have HL : Hid ((strCells V vl).length = vl) := length_strCells V vl
    cases va with
    | none =>
      go_wp2
      go_meet
      exact ⟨_, _, rfl, hV2, Below.refl _ _⟩
    | some ad =>
      have hal : Below wB.heap.size wB (wB.alloc (.cells cz3.toArray 9)) := (Below.refl _ _).alloc (Nat.le_refl _) _
      have hgr : (wB.alloc (.cells cz3.toArray 9)).heap[wB.heap.size]? = some (.cells cz3.toArray 9 (0, 0)) := heap_alloc_new wB _
      go_wp2_with (refine wpList_copy_splice rfl (.tmp 57) (.tmp 58) 22 22 rfl 9 Trym.underlying22 size9 _ _ vl vl vl vc rfl rfl wB.heap.size 0 cz3 9 hgr (strCells V vl) (by rw [HL.out]; simp) (fun hp => ⟨rfl, strCells_src (hV2.below hal (Nat.le_refl _)) hp⟩) (by rw [HL.out, HCZ.out]; simp) hone wB.heap.size wB hal (Nat.le_refl _) ?_; intro w2 hG2 hB2)
      go_meet
      exact ⟨_, _, rfl, strArr_row HCZ.out hG2.out hV2.small hV2.sizes, hB2⟩
  case rest =>
  obtain ⟨v1, vcap1, rfl, hV3, hbwC⟩ := hcut
  obtain ⟨wC, rfl⟩ : ∃ wC : World, wC = wc := ⟨_, rfl⟩
  clear hmk HCZ
  have hS3 := hS2.below hbwC (Nat.le_refl _)
  have hD3 := hD2.below hbwC (Nat.le_refl _)
  have hbb : Below w.heap.size w wC := hbb2.trans (hbwC.mono hbb2.size)
  clear hS2 hD2 hV2 hbwC hbb2 hnq
  go_wp2_with fail
  refine (addBytes_any _ a1 len cap1 S _ hS3 (by omega) (by omega)).mono ?_
  rintro e w1 ⟨⟨t, ht0, ht1, rfl⟩, hw⟩
  have hw' := hw.symm
  subst hw'
  clear hw
  by_cases h4 : 1048576 < t
  · go_wp2
    go_ret
    exact ⟨rfl, hbb⟩
  go_wp2_with fail
  refine (addBytes_any _ d1 dl dcap1 D _ hD3 ht0 (by omega)).mono ?_
  rintro e w1 ⟨⟨t2, ht20, ht21, rfl⟩, hw⟩
  have hw' := hw.symm
  subst hw'
  clear hw
  by_cases h5 : 1048576 < t2
  · go_wp2
    go_ret
    exact ⟨rfl, hbb⟩
  go_wp2_with fail
  refine (addBytes_any _ v1 vl vcap1 V _ hV3 ht20 (by omega)).mono ?_
  rintro e w1 ⟨⟨t3, ht30, ht31, rfl⟩, hw⟩
  have hw' := hw.symm
  subst hw'
  clear hw
  by_cases h6 : 1048576 < t3
  · go_wp2
    go_ret
    exact ⟨rfl, hbb⟩
  go_wp2_with fail
  refine (validAny_any a1 len cap1 S d1 dl dcap1 D _ hS3 hD3).mono ?_
  rintro e w3 ⟨⟨B, rfl, hB⟩, hb3⟩
  cases B with
  | false =>
    go_wp2
    go_ret
    exact ⟨rfl, hbb.trans (hb3.mono hbb.size)⟩
  | true =>
  obtain ⟨hl0, hA, hhas⟩ := hB rfl
  have hS4 := hS3.below hb3 (Nat.le_refl _)
  have hD4 := hD3.below hb3 (Nat.le_refl _)
  have hV4 := hV3.below hb3 (Nat.le_refl _)
  have hbb3 : Below w.heap.size w w3 := hbb.trans (hb3.mono hbb.size)
  have HA : Hid (Asc S len) := hA
  have HH : Hid (allB D dl S len = true) := hhas
  clear hA hhas hB hS3 hD3 hV3 hb3 hbb
  go_wp2_with fail
  refine (allIn_any v1 vl vcap1 V a1 len cap1 S _ hV4 hS4).mono ?_
  rintro e w4 ⟨rfl, hw⟩
  have hw' := hw.symm
  subst hw'
  clear hw
  cases hvB : allB V vl S len with
  | true =>
    go_wp2_with fail
    refine (enumAny_yes a1 len cap1 S d1 dl dcap1 v1 vl vcap1 V _ hS4 hV4 HA.out (by omega) hvB).mono ?_
    rintro e w5 ⟨rfl, hb5⟩
    have hS5 := hS4.below hb5 (Nat.le_refl _)
    have hV5 := hV4.below hb5 (Nat.le_refl _)
    have hbb5 : Below w.heap.size w w5 := hbb3.trans (hb5.mono hbb3.size)
    clear hS4 hV4 hD4 hb5 hbb3
    go_wp2_with fail
    refine (same_any v1 vl vcap1 v1 vcap1 V _ hV5 hV5).mono ?_
    rintro e w6 ⟨rfl, hb6⟩
    have hS6 := hS5.below hb6 (Nat.le_refl _)
    have hV6 := hV5.below hb6 (Nat.le_refl _)
    have hbb6 : Below w.heap.size w w6 := hbb5.trans (hb6.mono hbb5.size)
    clear hS5 hV5 hb6 hbb5
    go_wp2_with fail
    refine (enumAny_yes a1 len cap1 S d1 dl dcap1 v1 vl vcap1 V _ hS6 hV6 HA.out (by omega) hvB).mono ?_
    rintro e w7 ⟨rfl, hb7⟩
    have hV7 := hV6.below hb7 (Nat.le_refl _)
    have hbb7 : Below w.heap.size w w7 := hbb6.trans (hb7.mono hbb6.size)
    go_wp2_with fail
    refine (same_any v1 vl vcap1 v1 vcap1 V _ hV7 hV7).mono ?_
    rintro e w8 ⟨rfl, hb8⟩
    go_wp2
    go_ret
    exact ⟨rfl, hbb7.trans (hb8.mono hbb7.size)⟩
  | false =>
    go_wp2_with fail
    refine (enumAny_no a1 len cap1 S d1 dl dcap1 v1 vl vcap1 V _ hS4 hV4 HA.out (by omega) hvB).mono ?_
    rintro e w5 ⟨rfl, hb5⟩
    have hS5 := hS4.below hb5 (Nat.le_refl _)
    have hD5 := hD4.below hb5 (Nat.le_refl _)
    have hbb5 : Below w.heap.size w w5 := hbb3.trans (hb5.mono hbb3.size)
    clear hS4 hV4 hD4 hb5 hbb3
    go_wp2_with fail
    refine (same_any d1 dl dcap1 d1 dcap1 D _ hD5 hD5).mono ?_
    rintro e w6 ⟨rfl, hb6⟩
    have hS6 := hS5.below hb6 (Nat.le_refl _)
    have hD6 := hD5.below hb6 (Nat.le_refl _)
    have hbb6 : Below w.heap.size w w6 := hbb5.trans (hb6.mono hbb5.size)
    clear hS5 hD5 hb6 hbb5
    go_wp2_with fail
    refine (enumAny_yes a1 len cap1 S d1 dl dcap1 d1 dl dcap1 D _ hS6 hD6 HA.out (by omega) HH.out).mono ?_
    rintro e w7 ⟨rfl, hb7⟩
    have hD7 := hD6.below hb7 (Nat.le_refl _)
    have hbb7 : Below w.heap.size w w7 := hbb6.trans (hb7.mono hbb6.size)
    go_wp2_with fail
    refine (same_any d1 dl dcap1 d1 dcap1 D _ hD7 hD7).mono ?_
    rintro e w8 ⟨rfl, hb8⟩
    go_wp2
    go_ret
    exact ⟨rfl, hbb7.trans (hb8.mono hbb7.size)⟩
end Go.Proofs.Qxb6616219aMods

import Derived.Test.Qxb6616736aModsCopy
import Derived.Deep.RegionHeld3
namespace Go.Proofs.Qxb6616736aMods
open Go.ChangeShapes Go.WideShapes Go.ChangeAt Go.RowKit

theorem wrap_in {z : Int} (h0 : 0 ≤ z) (h1 : z ≤ 1073741824) : IntKind.i64.wrap z = z := by
  simp [IntKind.wrap, IntKind.signed, IntKind.bits]
  omega
/-- zzRowSizeModel, its answer named ahead. -/
theorem model_row (ta : Option Addr) (tl tc : Nat) (S : Nat → ByteArray) (ba : Option Addr) (bl bc : Nat) (A : Nat → Option Addr) (L C : Nat → Nat) (p q X : Int) (w : World)
    (hT : CellArr w ta tl (fun i => .string (S i))) (hB : CellArr w ba bl (fun i => .slice (A i) (L i) (C i)))
    (ht : tl ≤ 65536) (hb : bl ≤ 65536) (hp0 : 0 ≤ p) (hp1 : p ≤ 131072) (hq0 : 0 ≤ q) (hq1 : q ≤ 131072)
    (h1 : sumN (fun i => (S i).size) tl ≤ 1048576) (h2 : sumN L bl ≤ 1048576) (hX : X = 16 * ((tl : Int) + bl + p + q) + (sumN (fun i => (S i).size) tl : Nat) + (sumN L bl : Nat)) :
    Calls Trym.prog 9 #[.slice ta tl tc, .slice ba bl bc, .int .i64 p, .int .i64 q] w fun e w' => e = .returned (.int .i64 X) ∧ w' = w := by
  rw [hX]
  exact model_any ta tl tc S ba bl bc A L C p q w hT hB ht hb hp0 hp1 hq0 hq1 h1 h2

set_option maxHeartbeats 4000000 in
set_option maxRecDepth 100000 in
theorem walk3 (ca : Option Addr) (cl cc : Nat) (K : Nat → ByteArray) (ta : Option Addr) (tl tc : Nat) (S : Nat → ByteArray) (ba : Option Addr) (bl bc : Nat) (A : Nat → Option Addr) (L C : Nat → Nat) (ia : Option Addr) (il ic : Nat) (N : Nat → Int) (z0 z1 z2 z3 z4 : Int) (w : World)
    (hC : CellArr w ca cl (fun i => .string (K i))) (hT : CellArr w ta tl (fun i => .string (S i))) (hB : CellArr w ba bl (fun i => .slice (A i) (L i) (C i))) (hI : CellArr w ia il (fun i => .int .i64 (N i)))
    (nC : NilOk ca cl cc) (nT : NilOk ta tl tc) (nB : NilOk ba bl bc) (nI : NilOk ia il ic) (hbc : bl ≤ bc) :
    Calls Trym.prog 3 #[.slice ca cl cc, .slice ta tl tc, .slice ba bl bc, .slice ia il ic, .int .i64 z0, .int .i64 z1, .int .i64 z2, .int .i64 z3, .int .i64 z4] w fun e w' => e = .returned (.bool true) ∧ Below w.heap.size w w' := by
  have hm0 := hC.small
  have hm := hT.small
  have hm2 := hB.small
  have hm3 := hI.small
  unfold maxLen at hm0 hm hm2 hm3
  have hnq := fun (W : World) (x : Option Addr) (n c : Nat) => run_neq_slice_nil_any (P := Trym.prog) W 22 9 x n c 0 0 Trym.underlying22
  have hnq2 := fun (W : World) (x : Option Addr) (n c : Nat) => run_neq_slice_nil_any (P := Trym.prog) W 24 2 x n c 0 0 Trym.underlying24
  go_enter Trym.func3, Trym.ntmps3
  go_wp2_with fail
  refine (bytes3_any ca cl cc K ta tl tc S ba bl bc A L C ia il ic z0 z1 z2 z3 z4 _ hC hT hB hI.small).mono ?_
  rintro e w1 ⟨⟨B, rfl, hOk⟩, hw⟩
  have hw' := hw.symm
  subst hw'
  clear hw
  cases B with
  | false =>
    go_wp2
    go_ret
    exact ⟨rfl, Below.refl _ _⟩
  | true =>
  obtain ⟨e0, e1, e2⟩ := hOk rfl
  clear hOk
  have E0 : Hid (Each (fun i => (K i).size) cl) := e0
  have E1 : Hid (Each (fun i => (S i).size) tl) := e1
  have E2 : Hid (Each L bl) := e2
  clear e0 e1 e2
  go_wp2_with fail
  refine (tooBig_any ca cl cc K ta tl tc S ba bl bc A L C ia il ic 0 _ hC hT hB E0.out E1.out E2.out).mono ?_
  rintro e w1 ⟨⟨B, rfl, hOk⟩, hw⟩
  have hw' := hw.symm
  subst hw'
  clear hw
  cases B with
  | true =>
    go_wp2
    go_ret
    exact ⟨rfl, Below.refl _ _⟩
  | false =>
  obtain ⟨gt, gb, gi, _, gtot⟩ := hOk rfl
  have gc : cl ≤ 65536 := by omega
  clear hOk E0 E1 E2
  have GT : Hid ((sumN (fun i => (S i).size) tl : Int) + (sumN L bl : Nat) ≤ 1048576) := by
    show _ ≤ _
    omega
  clear gtot
  by_cases h1 : z0 < 0
  · go_wp2
    go_ret
    exact ⟨rfl, Below.refl _ _⟩
  by_cases h2 : 65536 < z0
  · go_wp2
    go_ret
    exact ⟨rfl, Below.refl _ _⟩
  obtain ⟨zn, rfl⟩ : ∃ n : Nat, z0 = (n : Int) := ⟨z0.toNat, by omega⟩
  have h2' : zn ≤ 65536 := by omega
  clear h1
  by_cases h3 : z1 < 0
  · go_wp2
    go_ret
    exact ⟨rfl, Below.refl _ _⟩
  by_cases h4 : (tl : Int) < z1
  · go_wp2
    go_ret
    exact ⟨rfl, Below.refl _ _⟩
  obtain ⟨ct, rfl⟩ : ∃ n : Nat, z1 = (n : Int) := ⟨z1.toNat, by omega⟩
  clear h3
  have h4' : ct ≤ tl := by omega
  by_cases h5 : z2 < 0
  · go_wp2
    go_ret
    exact ⟨rfl, Below.refl _ _⟩
  by_cases h6 : (bl : Int) < z2
  · go_wp2
    go_ret
    exact ⟨rfl, Below.refl _ _⟩
  obtain ⟨cb, rfl⟩ : ∃ n : Nat, z2 = (n : Int) := ⟨z2.toNat, by omega⟩
  clear h5
  have h6' : cb ≤ bl := by omega
  by_cases h7 : z3 < 0
  · go_wp2
    go_ret
    exact ⟨rfl, Below.refl _ _⟩
  by_cases h8 : (il : Int) < z3
  · go_wp2
    go_ret
    exact ⟨rfl, Below.refl _ _⟩
  obtain ⟨ci, rfl⟩ : ∃ n : Nat, z3 = (n : Int) := ⟨z3.toNat, by omega⟩
  clear h7
  have h8' : ci ≤ il := by omega
  by_cases h9 : z4 < 0
  · go_wp2
    go_ret
    exact ⟨rfl, Below.refl _ _⟩
  by_cases h10 : (zn : Int) < z4
  · go_wp2
    go_ret
    exact ⟨rfl, Below.refl _ _⟩
  obtain ⟨cn, rfl⟩ : ∃ n : Nat, z4 = (n : Int) := ⟨z4.toNat, by omega⟩
  clear h9
  have h10' : cn ≤ zn := by omega
  obtain ⟨cz, hcz, hmk⟩ := make9 cl (by omega)
  have HCZ : Hid (cz.length = cl) := hcz
  clear hcz
  go_upto_if 88 with fail
  go_cut [0] (fun s0 wx => ∃ a', s0 = .slice a' cl cl ∧ NilOk a' cl cl ∧ CellArr wx a' cl (fun i => .string (K i)) ∧ Below w.heap.size w wx)
  case first =>
    have hone := pre_one (V := fun i => Value.string (K i)) (fun _ => rfl) cl
    have HL : Hid ((pre (fun i => Value.string (K i)) cl).length = cl) := length_pre _ cl
    cases ca with
    | none =>
      obtain ⟨q1, q2⟩ := nC rfl
      subst q1 q2
      go_wp2
      go_meet
      exact ⟨_, rfl, nC, hC, Below.refl _ _⟩
    | some ad =>
      have hal : Below w.heap.size w (w.alloc (.cells cz.toArray 9)) := (Below.refl _ _).alloc (Nat.le_refl _) _
      have hgr : (w.alloc (.cells cz.toArray 9)).heap[w.heap.size]? = some (.cells cz.toArray 9 (0, 0)) := heap_alloc_new w _
      go_wp2_with (refine wpList_copy_splice rfl (.tmp 92) (.tmp 93) 22 22 rfl 9 Trym.underlying22 size9 _ _ cl cl cl cc rfl rfl w.heap.size 0 cz 9 hgr (pre (fun i => Value.string (K i)) cl) (by rw [HL.out]; simp) (fun hp => ⟨rfl, (hC.below hal (Nat.le_refl _)).src' hp⟩) (by rw [HL.out, HCZ.out]; simp) hone w.heap.size w hal (Nat.le_refl _) ?_; intro w2 hG2 hB2)
      go_meet
      exact ⟨_, rfl, fun h => (by cases h), arr_row HCZ.out hG2.out hC.small, hB2⟩
  case rest =>
  obtain ⟨c1, rfl, nC1, hCn, hbwwA⟩ := hcut
  obtain ⟨wA, rfl⟩ : ∃ wA : World, wA = wc := ⟨_, rfl⟩
  clear hmk HCZ
  have hT1 := hT.below hbwwA (Nat.le_refl _)
  have hB1 := hB.below hbwwA (Nat.le_refl _)
  have hI1 := hI.below hbwwA (Nat.le_refl _)
  clear hT hB hI hC hCn nC nC1
  obtain ⟨cz, hcz, hmk⟩ := make9 tl (by omega)
  have HCZ : Hid (cz.length = tl) := hcz
  clear hcz
  go_upto_if 97 with fail
  go_cut [1] (fun s0 wx => ∃ a', s0 = .slice a' tl tl ∧ NilOk a' tl tl ∧ CellArr wx a' tl (fun i => .string (S i)) ∧ Below wA.heap.size wA wx)
  case first =>
    have hone := pre_one (V := fun i => Value.string (S i)) (fun _ => rfl) tl
    have HL : Hid ((pre (fun i => Value.string (S i)) tl).length = tl) := length_pre _ tl
    cases ta with
    | none =>
      obtain ⟨q1, q2⟩ := nT rfl
      subst q1 q2
      go_wp2
      go_meet
      exact ⟨_, rfl, nT, hT1, Below.refl _ _⟩
    | some ad =>
      have hal : Below wA.heap.size wA (wA.alloc (.cells cz.toArray 9)) := (Below.refl _ _).alloc (Nat.le_refl _) _
      have hgr : (wA.alloc (.cells cz.toArray 9)).heap[wA.heap.size]? = some (.cells cz.toArray 9 (0, 0)) := heap_alloc_new wA _
      go_wp2_with (refine wpList_copy_splice rfl (.tmp 101) (.tmp 102) 22 22 rfl 9 Trym.underlying22 size9 _ _ tl tl tl tc rfl rfl wA.heap.size 0 cz 9 hgr (pre (fun i => Value.string (S i)) tl) (by rw [HL.out]; simp) (fun hp => ⟨rfl, (hT1.below hal (Nat.le_refl _)).src' hp⟩) (by rw [HL.out, HCZ.out]; simp) hone wA.heap.size wA hal (Nat.le_refl _) ?_; intro w2 hG2 hB2)
      go_meet
      exact ⟨_, rfl, fun h => (by cases h), arr_row HCZ.out hG2.out hT1.small, hB2⟩
  case rest =>
  obtain ⟨t1, rfl, nT1, hTn, hbwwB⟩ := hcut
  obtain ⟨wB, rfl⟩ : ∃ wA : World, wA = wc := ⟨_, rfl⟩
  clear hmk HCZ
  have hT2 := hTn
  have hB2 := hB1.below hbwwB (Nat.le_refl _)
  have hI2 := hI1.below hbwwB (Nat.le_refl _)
  have hbb2 : Below w.heap.size w wB := hbwwA.trans (hbwwB.mono hbwwA.size)
  clear hTn hT1 hB1 hI1 nT hbwwA hbwwB hnq
  obtain ⟨cz, hcz, hmk⟩ := make2 il (by omega)
  have HCZ : Hid (cz.length = il) := hcz
  clear hcz
  go_upto_if 106 with fail
  go_cut [3] (fun s0 wx => ∃ a', s0 = .slice a' il il ∧ NilOk a' il il ∧ CellArr wx a' il (fun i => .int .i64 (N i)) ∧ Below wB.heap.size wB wx)
  case first =>
    have hone := pre_one (V := fun i => Value.int .i64 (N i)) (fun _ => rfl) il
    have HL : Hid ((pre (fun i => Value.int .i64 (N i)) il).length = il) := length_pre _ il
    cases ia with
    | none =>
      obtain ⟨q1, q2⟩ := nI rfl
      subst q1 q2
      go_wp2
      go_meet
      exact ⟨_, rfl, nI, hI2, Below.refl _ _⟩
    | some ad =>
      have hal : Below wB.heap.size wB (wB.alloc (.cells cz.toArray 2)) := (Below.refl _ _).alloc (Nat.le_refl _) _
      have hgr : (wB.alloc (.cells cz.toArray 2)).heap[wB.heap.size]? = some (.cells cz.toArray 2 (0, 0)) := heap_alloc_new wB _
      go_wp2_with (refine wpList_copy_splice rfl (.tmp 110) (.tmp 111) 24 24 rfl 2 Trym.underlying24 size2 _ _ il il il ic rfl rfl wB.heap.size 0 cz 2 hgr (pre (fun i => Value.int .i64 (N i)) il) (by rw [HL.out]; simp) (fun hp => ⟨rfl, (hI2.below hal (Nat.le_refl _)).src' hp⟩) (by rw [HL.out, HCZ.out]; simp) hone wB.heap.size wB hal (Nat.le_refl _) ?_; intro w2 hG2 hB2)
      go_meet
      exact ⟨_, rfl, fun h => (by cases h), arr_row HCZ.out hG2.out hI2.small, hB2⟩
  case rest =>
  obtain ⟨i1, rfl, nI1, hIn, hbwwC⟩ := hcut
  obtain ⟨wC, rfl⟩ : ∃ wA : World, wA = wc := ⟨_, rfl⟩
  clear hmk HCZ
  have hI3 := hIn
  have hT3 := hT2.below hbwwC (Nat.le_refl _)
  have hB3 := hB2.below hbwwC (Nat.le_refl _)
  have hbb : Below w.heap.size w wC := hbb2.trans (hbwwC.mono hbb2.size)
  clear hIn hT2 hB2 hI2 nI hbwwC hbb2 hnq2
  obtain ⟨mt, hmt⟩ : ∃ m : Nat, ct + m = tl := ⟨tl - ct, by omega⟩
  obtain ⟨mb, hmb⟩ : ∃ m : Nat, cb + m = bl := ⟨bl - cb, by omega⟩
  obtain ⟨mi, hmi⟩ : ∃ m : Nat, ci + m = il := ⟨il - ci, by omega⟩
  obtain ⟨mz, hmz⟩ : ∃ m : Nat, cn + m = zn := ⟨zn - cn, by omega⟩
  have HMT : Hid (ct + mt = tl) := hmt
  have HMB : Hid (cb + mb = bl) := hmb
  have HMI : Hid (ci + mi = il) := hmi
  have HMZ : Hid (cn + mz = zn) := hmz
  have hT3h := hT3.hi h4'
  have hB3h := hB3.hi h6'
  have hI3h := hI3.hi h8'
  have hT3l : CellArr wC (lowAt t1 ct tl) mt (fun i => .string (S (ct + i))) := by
    have := hT3.lo h4' (Nat.le_refl tl)
    rwa [show tl - ct = mt by omega] at this
  have hB3l : CellArr wC (lowAt ba cb bc) mb (fun i => .slice (A (cb + i)) (L (cb + i)) (C (cb + i))) := by
    have := hB3.lo h6' hbc
    rwa [show bl - cb = mb by omega] at this
  have hI3l : CellArr wC (lowAt i1 ci il) mi (fun i => .int .i64 (N (ci + i))) := by
    have := hI3.lo h8' (Nat.le_refl il)
    rwa [show il - ci = mi by omega] at this
  have rTh := run_hi 22 9 Trym.underlying22 sizeOf9 t1 tl tl ct h4' nT1
  have rBh := run_hi 23 31 Trym.underlying23 sizeOf31 ba bl bc cb (by omega) nB
  have rIh := run_hi 24 2 Trym.underlying24 sizeOf2 i1 il il ci h8' nI1
  have rTl : ∀ W : World, (Instr.slice 22 (.slice t1 tl tl) (some (.int .i64 (ct : Int))) none none).run Trym.prog W = .ok (.slice (lowAt t1 ct tl) mt mt) W := by
    have := run_lo 22 9 Trym.underlying22 sizeOf9 t1 tl tl ct h4' nT1
    rwa [show tl - ct = mt by omega] at this
  obtain ⟨mc, hmc⟩ : ∃ m : Nat, bc - cb = m := ⟨_, rfl⟩
  have rBl : ∀ W : World, (Instr.slice 23 (.slice ba bl bc) (some (.int .i64 (cb : Int))) none none).run Trym.prog W = .ok (.slice (lowAt ba cb bc) mb mc) W := by
    have := run_lo 23 31 Trym.underlying23 sizeOf31 ba bl bc cb h6' nB
    rwa [show bl - cb = mb by omega, hmc] at this
  have rIl : ∀ W : World, (Instr.slice 24 (.slice i1 il il) (some (.int .i64 (ci : Int))) none none).run Trym.prog W = .ok (.slice (lowAt i1 ci il) mi mi) W := by
    have := run_lo 24 2 Trym.underlying24 sizeOf2 i1 il il ci h8' nI1
    rwa [show il - ci = mi by omega] at this
  have sT : Hid (sumN (fun i => (S i).size) tl = sumN (fun i => (S i).size) ct + sumN (fun i => (S (ct + i)).size) mt) := by
    show _ = _
    rw [← hmt, sumN_add]
  have sB : Hid (sumN L bl = sumN L cb + sumN (fun i => L (cb + i)) mb) := by
    show _ = _
    rw [← hmb, sumN_add]
  obtain ⟨XL, hXL⟩ : ∃ X : Int, X = 16 * ((ct : Int) + cb + ci + cn) + (sumN (fun i => (S i).size) ct : Nat) + (sumN L cb : Nat) := ⟨_, rfl⟩
  obtain ⟨XR, hXR⟩ : ∃ X : Int, X = 16 * ((mt : Int) + mb + mi + mz) + (sumN (fun i => (S (ct + i)).size) mt : Nat) + (sumN (fun i => L (cb + i)) mb : Nat) := ⟨_, rfl⟩
  have HXL : Hid (XL = 16 * ((ct : Int) + cb + ci + cn) + (sumN (fun i => (S i).size) ct : Nat) + (sumN L cb : Nat)) := hXL
  have HXR : Hid (XR = 16 * ((mt : Int) + mb + mi + mz) + (sumN (fun i => (S (ct + i)).size) mt : Nat) + (sumN (fun i => L (cb + i)) mb : Nat)) := hXR
  have HX : Hid (XL + XR = 16 * ((tl : Int) + bl + il + zn) + (sumN (fun i => (S i).size) tl : Nat) + (sumN L bl : Nat)) := by
    show _ = _
    have := sT.out
    have := sB.out
    omega
  have XL0 : 0 ≤ XL := by omega
  have XR0 : 0 ≤ XR := by omega
  have X1 : XL + XR ≤ 8388608 := by have := HX.out; have := GT.out; omega
  have XL1 : XL ≤ 8388608 := by omega
  have XR1 : XR ≤ 8388608 := by omega
  have hwr : Hid (IntKind.i64.wrap ((zn : Int) - cn) = (mz : Int)) := by
    show _ = _
    rw [wrap_in (by omega) (by omega)]
    omega
  have hwx : IntKind.i64.wrap (XL + XR) = XL + XR := wrap_in (by omega) (by omega)
  clear hXL hXR hmt hmb hmi hmz hmc
  go_wp2_with fail
  refine (newRow_any c1 cl cl t1 tl tl S ba bl bc A L C i1 il il N (zn : Int) zn rfl _ hT3 hB3 hI3 (by omega)).mono ?_
  intro e w4 hP
  obtain ⟨Rw, rfl, hRw, hb4⟩ := hP
  have hT4 := hT3h.below hb4 (Nat.le_refl _)
  have hB4 := hB3h.below hb4 (Nat.le_refl _)
  have hI4 := hI3h.below hb4 (Nat.le_refl _)
  go_wp2
  go_region_held3 (fun _ => True) (trivial)
    (first
      | (go_at_call 7; refine (newRow_any none 0 0 t1 ct tl S ba cb bc A L C i1 ci il N (cn : Int) cn rfl _ (hT4.below (Below.refl _ _).drew (Nat.le_refl _)) (hB4.below (Below.refl _ _).drew (Nat.le_refl _)) (hI4.below (Below.refl _ _).drew (Nat.le_refl _)) (by omega)).mono ?_; intro e w5 hP; obtain ⟨Rl, rfl, hRl, hb5'⟩ := hP; have hb5 : Below w4.heap.size w4 w5 := (Below.refl w4.heap.size w4).drew.trans hb5'))
  have hb35 : Below wC.heap.size wC w5 := hb4.trans (hb5.mono hb4.size)
  have hT5 := hT3l.below hb35 (Nat.le_refl _)
  have hB5 := hB3l.below hb35 (Nat.le_refl _)
  have hI5 := hI3l.below hb35 (Nat.le_refl _)
  go_wp2
  go_region_held3 (fun _ => True) (trivial)
    (first
      | (go_at_call 7; refine (newRow_any none 0 0 (lowAt t1 ct tl) mt mt (fun i => S (ct + i)) (lowAt ba cb bc) mb mc (fun i => A (cb + i)) (fun i => L (cb + i)) (fun i => C (cb + i)) (lowAt i1 ci il) mi mi (fun i => N (ci + i)) _ mz (by first | exact hwr.out | (have := HMZ.out; omega)) _ (hT5.below (Below.refl _ _).drew (Nat.le_refl _)) (hB5.below (Below.refl _ _).drew (Nat.le_refl _)) (hI5.below (Below.refl _ _).drew (Nat.le_refl _)) (by have := HMT.out; have := HMB.out; have := HMI.out; have := HMZ.out; omega)).mono ?_; intro e w6 hP; obtain ⟨Rr, rfl, hRr, hb6'⟩ := hP; have hb6 : Below w5.heap.size w5 w6 := (Below.refl w5.heap.size w5).drew.trans hb6'))
  have hRl6 := hRl.below hb6 (Nat.le_refl _)
  have hRw6 := (hRw.below hb5 (Nat.le_refl _)).below hb6 (Nat.le_refl _)
  have hb46 : Below wC.heap.size wC w6 := hb35.trans (hb6.mono hb35.size)
  have hT6 := hT3.below hb46 (Nat.le_refl _)
  have hB6 := hB3.below hb46 (Nat.le_refl _)
  have hfin : Below w.heap.size w w6 := hbb.trans (hb46.mono hbb.size)
  clear hT3 hB3 hI3 hT3h hB3h hI3h hT3l hB3l hI3l hT4 hB4 hI4 hT5 hB5 hI5 hRl hRw hb4 hb5 hb5' hb6 hb6' hb35 hb46 hbb rTl rBl rIl rIh
  go_wp2_with fail
  refine (size_row Rw tl bl il zn S A L C N (XL + XR) _ hRw6 (by omega) (by have := GT.out; omega) HX.out).mono ?_
  rintro e wz ⟨rfl, hw⟩
  have hw' := hw.symm
  subst hw'
  clear hw
  go_wp2_with fail
  refine (size_row Rl ct cb ci cn S A L C N XL _ hRl6 (by omega) (by have := sT.out; have := sB.out; have := GT.out; omega) HXL.out).mono ?_
  rintro e wz ⟨rfl, hw⟩
  have hw' := hw.symm
  subst hw'
  clear hw
  have tok1 : Hid (0 = 0) := rfl
  have tok2 : Hid (0 = 0) := rfl
  go_wp2
  go_region_held3 (fun _ => True) (trivial)
    (first
      | (go_at_call 9; clear tok1; refine (model_row t1 tl tl S ba bl bc A L C (il : Int) (zn : Int) (XL + XR) _ (hT6.below (Below.refl _ _).drew (Nat.le_refl _)) (hB6.below (Below.refl _ _).drew (Nat.le_refl _)) (by omega) (by omega) (by omega) (by omega) (by omega) (by omega) (by have := GT.out; omega) (by have := GT.out; omega) HX.out).mono ?_; rintro e wy ⟨rfl, rfl⟩)
      | (go_at_call 9; refine (model_row t1 ct tl S ba cb bc A L C (ci : Int) (cn : Int) XL _ ((hT6.hi h4').below (Below.refl _ _).drew (Nat.le_refl _)) ((hB6.hi h6').below (Below.refl _ _).drew (Nat.le_refl _)) (by omega) (by omega) (by omega) (by omega) (by omega) (by omega) (by have := sT.out; have := GT.out; omega) (by have := sB.out; have := GT.out; omega) HXL.out).mono ?_; rintro e wy ⟨rfl, rfl⟩)
      | (go_at_call 8; clear tok2; refine (size_row Rr mt mb mi mz (fun i => S (ct + i)) (fun i => A (cb + i)) (fun i => L (cb + i)) (fun i => C (cb + i)) (fun i => N (ci + i)) XR _ (hRr.below (Below.refl _ _).drew (Nat.le_refl _)) (by have := HMT.out; have := HMB.out; have := HMI.out; have := HMZ.out; omega) (by have := sT.out; have := sB.out; have := GT.out; omega) HXR.out).mono ?_; rintro e wy ⟨rfl, rfl⟩)
      | (go_at_call 8; refine (size_nil _).mono ?_; rintro e wy ⟨rfl, rfl⟩))
  go_wp2
  go_ret
  exact ⟨rfl, hfin.drew⟩
end Go.Proofs.Qxb6616736aMods

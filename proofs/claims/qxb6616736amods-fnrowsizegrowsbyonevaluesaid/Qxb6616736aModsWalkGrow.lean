import Derived.Test.Qxb6616736aModsCopy
namespace Go.Proofs.Qxb6616736aMods
open Go.ChangeShapes Go.WideShapes Go.ChangeAt Go.RowKit

theorem cell_one_new2 (w : World) (o : Obj) (x : Value) (t : TypeId) : ∀ j u, [x][j]? = some u → ((w.alloc o).alloc (.cells #[x] t)).cell? ((⟨w.heap.size + 1, 0, none⟩ : Addr).add j) = some u := by
  have := cell_one_new (w.alloc o) x t
  simpa using this

theorem pre_blob (A : Nat → Option Addr) (L C : Nat → Nat) (a : Option Addr) (l c n : Nat) : [Value.slice a l c] ++ pre (fun i => .slice (A i) (L i) (C i)) n = pre (fun i => .slice (ins A 0 a i) (ins L 0 l i) (ins C 0 c i)) (1 + n) := by
  have := pre_ins (fun q : Option Addr × Nat × Nat => Value.slice q.1 q.2.1 q.2.2) (fun i => (A i, L i, C i)) 0 (a, l, c) n
  simp only [Nat.zero_add] at this
  have e0 : pre (fun i => Value.slice (A i) (L i) (C i)) 0 = [] := rfl
  rw [e0, List.nil_append] at this
  rw [this]
  refine pre_congr _ fun i _ => ?_
  unfold ins
  split
  · rfl
  · split <;> rfl
theorem pre_int (N : Nat → Int) (n : Nat) (v : Int) : pre (fun i => .int .i64 (N i)) n ++ [Value.int .i64 v] = pre (fun i => .int .i64 (ins N n v i)) (n + 1) := by
  have := pre_ins (fun q : Int => Value.int .i64 q) N n v 0
  have e0 : pre (fun i => Value.int .i64 (N (n + i))) 0 = [] := rfl
  rw [e0, List.append_nil] at this
  exact this
theorem sum_text (S : Nat → ByteArray) (n : Nat) (s : ByteArray) (m : Nat) : sumN (fun i => (ins S n s i).size) (n + 1 + m) = sumN (fun i => (S i).size) (n + m) + s.size := sum_ins' (fun q : ByteArray => q.size) S n s m
theorem sum_blob (L : Nat → Nat) (l n : Nat) : sumN (ins L 0 l) (1 + n) = sumN L n + l := by
  have := sum_ins L 0 l n
  simpa using this

set_option maxHeartbeats 4000000 in
set_option maxRecDepth 100000 in
theorem walk4 (ta : Option Addr) (tl tc : Nat) (S : Nat → ByteArray) (ba : Option Addr) (bl bc : Nat) (A : Nat → Option Addr) (L C : Nat → Nat) (ia : Option Addr) (il ic : Nat) (N : Nat → Int) (s : ByteArray) (xa : Option Addr) (xl xc : Nat) (v z : Int) (w : World)
    (hT : CellArr w ta tl (fun i => .string (S i))) (hB : CellArr w ba bl (fun i => .slice (A i) (L i) (C i))) (hI : CellArr w ia il (fun i => .int .i64 (N i)))
    (nT : NilOk ta tl tc) (nB : NilOk ba bl bc) (nI : NilOk ia il ic) (hxl : xl ≤ maxLen) :
    Calls Trym.prog 4 #[.slice ta tl tc, .slice ba bl bc, .slice ia il ic, .string s, .slice xa xl xc, .int .i64 v, .int .i64 z] w fun e w' => e = .returned (.bool true) ∧ Below w.heap.size w w' := by
  have hm := hT.small
  have hm2 := hB.small
  have hm3 := hI.small
  unfold maxLen at hm hm2 hm3
  have hnq := fun (W : World) (x : Option Addr) (n c : Nat) => run_neq_slice_nil_any (P := Trym.prog) W 22 9 x n c 0 0 Trym.underlying22
  have hnq2 := fun (W : World) (x : Option Addr) (n c : Nat) => run_neq_slice_nil_any (P := Trym.prog) W 24 2 x n c 0 0 Trym.underlying24
  go_enter Trym.func4, Trym.ntmps4
  go_wp2_with fail
  refine (bytes4_any ta tl tc S ba bl bc A L C ia il ic s xa xl xc v z _ hT hB hI.small hxl).mono ?_
  rintro e w1 ⟨⟨B, rfl, hOk⟩, hw⟩
  have hw' := hw.symm
  subst hw'
  clear hw
  cases B with
  | false =>
    go_wp2
    go_ret
    exact ⟨rfl, Below.refl _ _⟩
  | true =>
  obtain ⟨e1, e2⟩ := hOk rfl
  clear hOk
  by_cases h1 : 1048576 < (s.size : Int)
  · go_wp2
    go_ret
    exact ⟨rfl, Below.refl _ _⟩
  have h1' : decide (1048576 < (s.size : Int)) = false := by simpa using h1
  by_cases h2 : 1048576 < (xl : Int)
  · go_wp2
    go_ret
    exact ⟨rfl, Below.refl _ _⟩
  have h2' : decide (1048576 < (xl : Int)) = false := by simpa using h2
  have E1 : Hid (Each (fun i => (S i).size) tl) := e1
  have E2 : Hid (Each L bl) := e2
  clear e1 e2
  go_wp2_with fail
  refine (tooBig_any none 0 0 (fun _ => ByteArray.empty) ta tl tc S ba bl bc A L C ia il ic ((s.size : Int) + xl) _ ⟨fun h => absurd h (Nat.lt_irrefl 0), Nat.zero_le _⟩ hT hB (Each.zero _) E1.out E2.out).mono ?_
  rintro e w1 ⟨⟨B, rfl, hOk⟩, hw⟩
  have hw' := hw.symm
  subst hw'
  clear hw
  cases B with
  | true =>
    go_wp2
    go_ret
    exact ⟨rfl, Below.refl _ _⟩
  | false =>
  obtain ⟨gt, gb, gi, _, gtot⟩ := hOk rfl
  clear hOk E1 E2
  have GT : Hid ((s.size : Int) + xl + 16 * (tl : Int) + 24 * (bl : Int) + 8 * (il : Int) + (sumN (fun i => (S i).size) tl : Nat) + (sumN L bl : Nat) ≤ 1048576) := by
    rw [sumN_zero] at gtot
    show _ ≤ _
    omega
  clear gtot
  by_cases h3 : z < 0
  · go_wp2
    go_ret
    exact ⟨rfl, Below.refl _ _⟩
  by_cases h4 : (tl : Int) < z
  · go_wp2
    go_ret
    exact ⟨rfl, Below.refl _ _⟩
  obtain ⟨n, rfl⟩ : ∃ n : Nat, z = (n : Int) := ⟨z.toNat, by omega⟩
  have hn : n ≤ tl := by omega
  clear h3 
  obtain ⟨cz, hcz, hmk⟩ := make9 tl (by omega)
  have HCZ : Hid (cz.length = tl) := hcz
  clear hcz
  go_upto_if 56 with fail
  go_cut [0] (fun s0 wx => ∃ a', s0 = .slice a' tl tl ∧ NilOk a' tl tl ∧ CellArr wx a' tl (fun i => .string (S i)) ∧ Below w.heap.size w wx)
  case first =>
    have hone := pre_one (V := fun i => Value.string (S i)) (fun _ => rfl) tl
    have HL : Hid ((pre (fun i => Value.string (S i)) tl).length = tl) := length_pre _ tl
    cases ta with
    | none =>
      obtain ⟨q1, q2⟩ := nT rfl
      subst q1 q2
      go_wp2
      go_meet
      exact ⟨_, rfl, nT, hT, Below.refl _ _⟩
    | some ad =>
      have hal : Below w.heap.size w (w.alloc (.cells cz.toArray 9)) := (Below.refl _ _).alloc (Nat.le_refl _) _
      have hgr : (w.alloc (.cells cz.toArray 9)).heap[w.heap.size]? = some (.cells cz.toArray 9 (0, 0)) := heap_alloc_new w _
      go_wp2_with (refine wpList_copy_splice rfl (.tmp 60) (.tmp 61) 22 22 rfl 9 Trym.underlying22 size9 _ _ tl tl tl tc rfl rfl w.heap.size 0 cz 9 hgr (pre (fun i => Value.string (S i)) tl) (by rw [HL.out]; simp) (fun hp => ⟨rfl, (hT.below hal (Nat.le_refl _)).src' hp⟩) (by rw [HL.out, HCZ.out]; simp) hone w.heap.size w hal (Nat.le_refl _) ?_; intro w2 hG2 hB2)
      go_meet
      exact ⟨_, rfl, fun h => (by cases h), arr_row HCZ.out hG2.out hT.small, hB2⟩
  case rest =>
  obtain ⟨t1, rfl, nT1, hT1, hbwA⟩ := hcut
  obtain ⟨wA, rfl⟩ : ∃ wA : World, wA = wc := ⟨_, rfl⟩
  clear hmk HCZ hnq
  have hB1 := hB.below hbwA (Nat.le_refl _)
  have hI1 := hI.below hbwA (Nat.le_refl _)
  clear hT hB hI nT
  obtain ⟨cz2, hcz, hmk⟩ := make2 il (by omega)
  have HCZ : Hid (cz2.length = il) := hcz
  clear hcz
  go_upto_if 65 with fail
  go_cut [2] (fun s0 wx => ∃ a', s0 = .slice a' il il ∧ NilOk a' il il ∧ CellArr wx a' il (fun i => .int .i64 (N i)) ∧ Below wA.heap.size wA wx)
  case first =>
    have hone := pre_one (V := fun i => Value.int .i64 (N i)) (fun _ => rfl) il
    have HL : Hid ((pre (fun i => Value.int .i64 (N i)) il).length = il) := length_pre _ il
    cases ia with
    | none =>
      obtain ⟨q1, q2⟩ := nI rfl
      subst q1 q2
      go_wp2
      go_meet
      exact ⟨_, rfl, nI, hI1, Below.refl _ _⟩
    | some ad =>
      have hal : Below wA.heap.size wA (wA.alloc (.cells cz2.toArray 2)) := (Below.refl _ _).alloc (Nat.le_refl _) _
      have hgr : (wA.alloc (.cells cz2.toArray 2)).heap[wA.heap.size]? = some (.cells cz2.toArray 2 (0, 0)) := heap_alloc_new wA _
      go_wp2_with (refine wpList_copy_splice rfl (.tmp 69) (.tmp 70) 24 24 rfl 2 Trym.underlying24 size2 _ _ il il il ic rfl rfl wA.heap.size 0 cz2 2 hgr (pre (fun i => Value.int .i64 (N i)) il) (by rw [HL.out]; simp) (fun hp => ⟨rfl, (hI1.below hal (Nat.le_refl _)).src' hp⟩) (by rw [HL.out, HCZ.out]; simp) hone wA.heap.size wA hal (Nat.le_refl _) ?_; intro w2 hG2 hB2)
      go_meet
      exact ⟨_, rfl, fun h => (by cases h), arr_row HCZ.out hG2.out hI1.small, hB2⟩
  case rest =>
  obtain ⟨i1, rfl, nI1, hI2, hbwB⟩ := hcut
  obtain ⟨wB, rfl⟩ : ∃ wB : World, wB = wc := ⟨_, rfl⟩
  clear hmk HCZ hnq2
  have hT2 := hT1.below hbwB (Nat.le_refl _)
  have hB2 := hB1.below hbwB (Nat.le_refl _)
  have hbb : Below w.heap.size w wB := hbwA.trans (hbwB.mono hbwA.size)
  clear hT1 hB1 hI1 hbwA hbwB nI
  obtain ⟨m, hnm⟩ : ∃ m : Nat, n + m = tl := ⟨tl - n, by omega⟩
  have HNM : Hid (n + m = tl) := hnm
  have hhi := run_hi 22 9 Trym.underlying22 sizeOf9 t1 tl tl n hn nT1
  have hlo : ∀ W : World, (Instr.slice 22 (.slice t1 tl tl) (some (.int .i64 (n : Int))) none none).run Trym.prog W = .ok (.slice (lowAt t1 n tl) m m) W := by
    have := run_lo 22 9 Trym.underlying22 sizeOf9 t1 tl tl n hn nT1
    rwa [show tl - n = m by omega] at this
  have nhi : NilOk t1 n tl := nT1.hi hn
  have nlo : NilOk (lowAt t1 n tl) m m := by
    have := nT1.lo (n := n)
    rwa [show tl - n = m by omega] at this
  have hTlo : CellArr wB (lowAt t1 n tl) m (fun i => .string (S (n + i))) := by
    have := hT2.lo hn (Nat.le_refl tl)
    rwa [show tl - n = m by omega] at this
  clear hnm
  obtain ⟨czT, hczT, hmkT⟩ := makeRoom 22 9 _ 16 Trym.underlying22 info9 (by omega) tl (by omega)
  obtain ⟨czB, hczB, hmkB⟩ := makeRoom 23 31 _ 24 Trym.underlying23 info31 (by omega) bl (by omega)
  obtain ⟨czI, hczI, hmkI⟩ := makeRoom 24 2 _ 8 Trym.underlying24 info2 (by omega) il (by omega)
  obtain ⟨i9, hi9, _, hs9, _⟩ := info_parts info9
  obtain ⟨i31, hi31, _, hs31, _⟩ := info_parts info31
  obtain ⟨i2, hi2, _, hs2, _⟩ := info_parts info2
  have HcT : Hid (czT.size = tl + 1) := hczT
  have HcB : Hid (czB.size = bl + 1) := hczB
  have HcI : Hid (czI.size = il + 1) := hczI
  clear hczT hczB hczI
  have hownA := own_new wB 9 czT (tl + 1) HcT.out (by unfold maxLen; omega)
  have halA : Below wB.heap.size wB (wB.alloc (.cells czT 9)) := (Below.refl _ _).alloc (Nat.le_refl _) _
  go_wp2_with (at_builtin; first
    | (refine wpList_append_fits_any _ rfl (.tmp 77) (.tmp 80) 22 rfl wB.heap.size 9 i9 1 Trym.underlying22 hi9 hs9 wB.heap.size 0 (tl + 1) [] rfl hownA t1 n tl (pre (fun i => .string (S i)) n) rfl (by rw [length_pre, Nat.mul_one]) nhi (fun ad e => ((hT2.below halA (Nat.le_refl _)).hi hn).src e) (pre_one (fun _ => rfl) n) (by omega) ?_; intro w2 hown2 hg2; rw [Nat.zero_add, List.nil_append] at hown2; have hb2 : Below wB.heap.size wB w2 := halA.grown hg2 halA.size (fun k e => by cases e; exact Nat.le_refl _))
    | (refine wpList_append_fits _ rfl (.tmp 82) (.tmp 84) 22 rfl wB.heap.size 9 i9 1 Trym.underlying22 hi9 hs9 wB.heap.size n (tl + 1) _ rfl (hown2.alloc _) ⟨w2.heap.size, 0, none⟩ 1 1 [.string s] rfl rfl (cell_one_new _ _ _) (one_cell _ rfl) (by omega) ?_; intro w3 hown3 hg3; have hb3 : Below wB.heap.size wB w3 := (hb2.alloc hb2.size _).grown hg3 (Nat.le_trans hb2.size (by simp)) (fun k e => by cases e; exact Nat.le_refl _))
    | (refine wpList_append_fits_any _ rfl (.tmp 86) (.tmp 89) 22 rfl wB.heap.size 9 i9 1 Trym.underlying22 hi9 hs9 wB.heap.size (n + 1) (tl + 1) _ rfl hown3 (lowAt t1 n tl) m m (pre (fun i => .string (S (n + i))) m) rfl (by rw [length_pre, Nat.mul_one]) nlo (fun ad e => (hTlo.below hb3 (Nat.le_refl _)).src e) (pre_one (fun _ => rfl) m) (by have := HNM.out; omega) ?_; intro w4 hown4 hg4; have hb4 : Below wB.heap.size wB w4 := hb3.grown hg4 hb3.size (fun k e => by cases e; exact Nat.le_refl _); have hownB := own_new w4 31 czB (bl + 1) HcB.out (by unfold maxLen; omega); have halB : Below w4.heap.size w4 (w4.alloc (.cells czB 31)) := (Below.refl _ _).alloc (Nat.le_refl _) _)
    | (refine wpList_append_fits _ rfl (.tmp 95) (.tmp 97) 23 rfl w4.heap.size 31 i31 1 Trym.underlying23 hi31 hs31 w4.heap.size 0 (bl + 1) _ rfl (hownB.alloc _) ⟨w4.heap.size + 1, 0, none⟩ 1 1 [.slice xa xl xc] rfl rfl (cell_one_new2 _ _ _ _) (one_cell _ rfl) (by omega) ?_; intro w5 hown5 hg5; rw [Nat.zero_add, List.nil_append] at hown5; have hb5 : Below w4.heap.size w4 w5 := (halB.alloc halB.size _).grown hg5 (by simp; omega) (fun k e => by cases e; exact Nat.le_refl _))
    | (refine wpList_append_fits_any _ rfl (.tmp 99) (.tmp 100) 23 rfl w4.heap.size 31 i31 1 Trym.underlying23 hi31 hs31 w4.heap.size 1 (bl + 1) _ rfl hown5 ba bl bc (pre (fun i => .slice (A i) (L i) (C i)) bl) rfl (by rw [length_pre, Nat.mul_one]) nB (fun ad e => ((hB2.below hb4 (Nat.le_refl _)).below hb5 (Nat.le_refl _)).src e) (pre_one (fun _ => rfl) bl) (by omega) ?_; intro w6 hown6 hg6; have hb6 : Below w4.heap.size w4 w6 := hb5.grown hg6 hb5.size (fun k e => by cases e; exact Nat.le_refl _); have hownC := own_new w6 2 czI (il + 1) HcI.out (by unfold maxLen; omega); have halC : Below w6.heap.size w6 (w6.alloc (.cells czI 2)) := (Below.refl _ _).alloc (Nat.le_refl _) _)
    | (refine wpList_append_fits_any _ rfl (.tmp 106) (.tmp 107) 24 rfl w6.heap.size 2 i2 1 Trym.underlying24 hi2 hs2 w6.heap.size 0 (il + 1) _ rfl hownC i1 il il (pre (fun i => .int .i64 (N i)) il) rfl (by rw [length_pre, Nat.mul_one]) nI1 (fun ad e => (((hI2.below hb4 (Nat.le_refl _)).below hb6 (Nat.le_refl _)).below halC (Nat.le_refl _)).src e) (pre_one (fun _ => rfl) il) (by omega) ?_; intro w7 hown7 hg7; rw [Nat.zero_add, List.nil_append] at hown7; have hb7 : Below w6.heap.size w6 w7 := halC.grown hg7 halC.size (fun k e => by cases e; exact Nat.le_refl _))
    | (refine wpList_append_fits _ rfl (.tmp 109) (.tmp 111) 24 rfl w6.heap.size 2 i2 1 Trym.underlying24 hi2 hs2 w6.heap.size il (il + 1) _ rfl (hown7.alloc _) ⟨w7.heap.size, 0, none⟩ 1 1 [.int .i64 v] rfl rfl (cell_one_new _ _ _) (one_cell _ rfl) (by omega) ?_; intro w8 hown8 hg8; have hb8 : Below w6.heap.size w6 w8 := (hb7.alloc hb7.size _).grown hg8 (Nat.le_trans hb7.size (by simp)) (fun k e => by cases e; exact Nat.le_refl _)))
  have hTx : CellArr w4 (some ⟨wB.heap.size, 0, none⟩) (n + 1 + m) (fun i => .string (ins S n s i)) := own_cells hown4 (pre_ins (fun q => Value.string q) S n s m) (by have := HNM.out; unfold maxLen; omega)
  have hBx : CellArr w6 (some ⟨w4.heap.size, 0, none⟩) (1 + bl) (fun i => .slice (ins A 0 xa i) (ins L 0 xl i) (ins C 0 xc i)) := own_cells hown6 (pre_blob A L C xa xl xc bl) (by unfold maxLen; omega)
  have hIx : CellArr w8 (some ⟨w6.heap.size, 0, none⟩) (il + 1) (fun i => .int .i64 (ins N il v i)) := own_cells hown8 (pre_int N il v) (by unfold maxLen; omega)
  have hbx : Below w4.heap.size w4 w8 := hb6.trans (hb8.mono hb6.size)
  have hTx8 := hTx.below hbx (Nat.le_refl _)
  have hBx8 := hBx.below hb8 (Nat.le_refl _)
  have hby : Below wB.heap.size wB w8 := hb4.trans (hbx.mono hb4.size)
  have hT8 := hT2.below hby (Nat.le_refl _)
  have hB8 := hB2.below hby (Nat.le_refl _)
  have hI8 := hI2.below hby (Nat.le_refl _)
  have hb0 : Below w.heap.size w w8 := hbb.trans (hby.mono hbb.size)
  obtain ⟨g1, hg1⟩ : ∃ g, g = wB.heap.size := ⟨_, rfl⟩
  obtain ⟨g2', hg2'⟩ : ∃ g, g = w4.heap.size := ⟨_, rfl⟩
  obtain ⟨g3', hg3'⟩ : ∃ g, g = w6.heap.size := ⟨_, rfl⟩
  rw [← hg1] at hTx8 ⊢
  rw [← hg2'] at hBx8 ⊢
  rw [← hg3'] at hIx ⊢
  clear hTx hBx hbx hby hT2 hB2 hI2 hbb hb8 hb7 hb6 hb5 hb4 hb3 hb2 hg2 hg3 hg4 hg5 hg6 hg7 hg8 hown2 hown3 hown4 hown5 hown6 hown7 hown8 hownA hownB hownC halA halB halC hTlo HcT HcB HcI hmkT hmkB hmkI hhi hlo hg1 hg2' hg3' hi9 hi31 hi2 hs9 hs31 hs2
  obtain ⟨X, hX⟩ : ∃ X : Int, X = 16 * ((tl : Int) + bl + il + 0) + (sumN (fun i => (S i).size) tl : Nat) + (sumN L bl : Nat) := ⟨_, rfl⟩
  have X0 : 0 ≤ X := by omega
  have X1 : X ≤ 8388608 := by have := GT.out; omega
  have HX : Hid (X = 16 * ((tl : Int) + bl + il + 0) + (sumN (fun i => (S i).size) tl : Nat) + (sumN L bl : Nat)) := hX
  clear hX
  refine (newRow_any none 0 0 t1 tl tl S ba bl bc A L C i1 il il N 0 0 rfl _ hT8 hB8 hI8 (by omega)).mono ?_
  intro e w9 hP
  obtain ⟨R, rfl, hR, hb9⟩ := hP
  go_wp2_with fail
  refine (size_row R tl bl il 0 S A L C N X _ hR (by omega) (by have := GT.out; omega) HX.out).mono ?_
  rintro e wz ⟨rfl, hw⟩
  have hw' := hw.symm
  subst hw'
  clear hw hR
  have hT9 := hT8.below hb9 (Nat.le_refl _)
  have hB9 := hB8.below hb9 (Nat.le_refl _)
  have hI9 := hI8.below hb9 (Nat.le_refl _)
  have hTx9 := hTx8.below hb9 (Nat.le_refl _)
  have hBx9 := hBx8.below hb9 (Nat.le_refl _)
  have hIx9 := hIx.below hb9 (Nat.le_refl _)
  have hz9 : Below w.heap.size w w9 := hb0.trans (hb9.mono hb0.size)
  clear hT8 hB8 hI8 hTx8 hBx8 hIx hb9 hb0
  go_wp2_with fail
  refine (newRow_any none 0 0 (some ⟨g1, 0, none⟩) (n + 1 + m) (tl + 1) (ins S n s) ba bl bc A L C i1 il il N 0 0 rfl _ hTx9 hB9 hI9 (by have := HNM.out; omega)).mono ?_
  intro e w10 hP
  obtain ⟨R10, rfl, hR, hb10⟩ := hP
  go_wp2_with fail
  refine (size_row R10 (n + 1 + m) bl il 0 (ins S n s) A L C N (X + 16 + (s.size : Int)) _ hR (by have := HNM.out; omega) (by rw [sum_text, HNM.out]; have := GT.out; omega) (by rw [sum_text, HNM.out]; have := HX.out; have := HNM.out; omega)).mono ?_
  rintro e wz ⟨rfl, hw⟩
  have hw' := hw.symm
  subst hw'
  clear hw hR
  have hT10 := hT9.below hb10 (Nat.le_refl _)
  have hB10 := hB9.below hb10 (Nat.le_refl _)
  have hI10 := hI9.below hb10 (Nat.le_refl _)
  have hTx10 := hTx9.below hb10 (Nat.le_refl _)
  have hBx10 := hBx9.below hb10 (Nat.le_refl _)
  have hIx10 := hIx9.below hb10 (Nat.le_refl _)
  have hz10 : Below w.heap.size w w10 := hz9.trans (hb10.mono hz9.size)
  clear hT9 hB9 hI9 hTx9 hBx9 hIx9 hb10 hz9
  go_wp2_with fail
  refine (newRow_any none 0 0 t1 tl tl S (some ⟨g2', 0, none⟩) (1 + bl) (bl + 1) (ins A 0 xa) (ins L 0 xl) (ins C 0 xc) i1 il il N 0 0 rfl _ hT10 hBx10 hI10 (by omega)).mono ?_
  intro e w11 hP
  obtain ⟨R11, rfl, hR, hb11⟩ := hP
  go_wp2_with fail
  refine (size_row R11 tl (1 + bl) il 0 S (ins A 0 xa) (ins L 0 xl) (ins C 0 xc) N (X + 16 + (xl : Int)) _ hR (by omega) (by rw [sum_blob]; have := GT.out; omega) (by rw [sum_blob]; have := HX.out; omega)).mono ?_
  rintro e wz ⟨rfl, hw⟩
  have hw' := hw.symm
  subst hw'
  clear hw hR
  have hT11 := hT10.below hb11 (Nat.le_refl _)
  have hB11 := hB10.below hb11 (Nat.le_refl _)
  have hI11 := hI10.below hb11 (Nat.le_refl _)
  have hTx11 := hTx10.below hb11 (Nat.le_refl _)
  have hBx11 := hBx10.below hb11 (Nat.le_refl _)
  have hIx11 := hIx10.below hb11 (Nat.le_refl _)
  have hz11 : Below w.heap.size w w11 := hz10.trans (hb11.mono hz10.size)
  clear hT10 hB10 hI10 hTx10 hBx10 hIx10 hb11 hz10
  go_wp2_with fail
  refine (newRow_any none 0 0 t1 tl tl S ba bl bc A L C (some ⟨g3', 0, none⟩) (il + 1) (il + 1) (ins N il v) 0 0 rfl _ hT11 hB11 hIx11 (by omega)).mono ?_
  intro e w12 hP
  obtain ⟨R12, rfl, hR, hb12⟩ := hP
  go_wp2_with fail
  refine (size_row R12 tl bl (il + 1) 0 S A L C (ins N il v) (X + 16) _ hR (by omega) (by have := GT.out; omega) (by have := HX.out; omega)).mono ?_
  rintro e wz ⟨rfl, hw⟩
  have hw' := hw.symm
  subst hw'
  clear hw hR
  have hT12 := hT11.below hb12 (Nat.le_refl _)
  have hB12 := hB11.below hb12 (Nat.le_refl _)
  have hI12 := hI11.below hb12 (Nat.le_refl _)
  have hTx12 := hTx11.below hb12 (Nat.le_refl _)
  have hBx12 := hBx11.below hb12 (Nat.le_refl _)
  have hIx12 := hIx11.below hb12 (Nat.le_refl _)
  have hz12 : Below w.heap.size w w12 := hz11.trans (hb12.mono hz11.size)
  clear hT11 hB11 hI11 hTx11 hBx11 hIx11 hb12 hz11
  go_wp2_with fail
  refine (newRow_any none 0 0 t1 tl tl S ba bl bc A L C i1 il il N 1 1 rfl _ hT12 hB12 hI12 (by omega)).mono ?_
  intro e w13 hP
  obtain ⟨R13, rfl, hR, hb13⟩ := hP
  go_wp2_with fail
  refine (size_row R13 tl bl il 1 S A L C N (X + 16) _ hR (by omega) (by have := GT.out; omega) (by have := HX.out; omega)).mono ?_
  rintro e wz ⟨rfl, hw⟩
  have hw' := hw.symm
  subst hw'
  clear hw hR
  have hT13 := hT12.below hb13 (Nat.le_refl _)
  have hB13 := hB12.below hb13 (Nat.le_refl _)
  have hI13 := hI12.below hb13 (Nat.le_refl _)
  have hTx13 := hTx12.below hb13 (Nat.le_refl _)
  have hBx13 := hBx12.below hb13 (Nat.le_refl _)
  have hIx13 := hIx12.below hb13 (Nat.le_refl _)
  have hz13 : Below w.heap.size w w13 := hz12.trans (hb13.mono hz12.size)
  clear hT12 hB12 hI12 hTx12 hBx12 hIx12 hb13 hz12
  go_wp2
  go_ret
  exact ⟨rfl, hz13⟩
end Go.Proofs.Qxb6616736aMods

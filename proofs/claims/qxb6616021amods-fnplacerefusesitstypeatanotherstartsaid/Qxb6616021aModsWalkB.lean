import Derived.Test.Qxb6616021aModsWalkA
namespace Go.Proofs.Qxb6616021aMods
open Go.ChangeShapes Go.WideShapes Go.ChangeAt Go.RowKit Go.Maps Go.WideMaps

/-- What the law's own search has found among the first i tasks. -/
def Found (S : Nat → ByteArray) (q : ByteArray) (i : Nat) (kv : Int) : Prop := (kv = -1 ∧ ∀ j, j < i → S j ≠ q) ∨ ∃ j : Nat, j < i ∧ kv = (j : Nat) ∧ S j = q
theorem found_zero (S : Nat → ByteArray) (q : ByteArray) : Found S q 0 (-1) := Or.inl ⟨rfl, fun _ hj => absurd hj (Nat.not_lt_zero _)⟩
theorem found_hit {S : Nat → ByteArray} {q : ByteArray} {i : Nat} (h : S i = q) : Found S q (i + 1) (i : Nat) := Or.inr ⟨i, Nat.lt_succ_self _, rfl, h⟩
theorem found_miss {S : Nat → ByteArray} {q : ByteArray} {i : Nat} {kv : Int} (hf : Found S q i kv) (h : S i ≠ q) : Found S q (i + 1) kv := by
  rcases hf with ⟨e, hn⟩ | ⟨j, hj, e, hs⟩
  · refine Or.inl ⟨e, fun j hj => ?_⟩
    rcases Nat.lt_succ_iff_lt_or_eq.1 hj with h' | rfl
    · exact hn j h'
    · exact h
  · exact Or.inr ⟨j, by omega, e, hs⟩

theorem str_eq {s t : ByteArray} (h : (s.toList == t.toList) = true) : s = t := by
  have h' : s.toList = t.toList := by simpa using h
  rw [ByteArray.toList_eq, ByteArray.toList_eq] at h'
  exact bytes_inj h'
theorem str_ne {s t : ByteArray} (h : (s.toList == t.toList) = false) : s ≠ t := fun e => by
  subst e
  simp at h

set_option maxHeartbeats 2000000 in
set_option maxRecDepth 100000 in
theorem walk5 (a : Option Addr) (len cap : Nat) (S : Nat → ByteArray) (N : Nat → Int) (q : ByteArray) (n : Int) (w : World) (h : TaskArr w a len S N) (hq : q.size ≤ maxLen) (hn0 : -9223372036854775808 ≤ n) (hn1 : n ≤ 9223372036854775807) :
    Calls Trym.prog 5 #[.slice a len cap, .string q, .int .i64 n] w fun e w' => e = .returned (.bool true) ∧ Below w.heap.size w w' := by
  have hm := h.small
  have hqm := hq
  unfold maxLen at hm hqm
  go_enter Trym.func5, Trym.ntmps5
  go_wp2_with fail
  refine (zzBytes5_any a len cap S N q n _ h hq).mono ?_
  rintro e w1 ⟨⟨B, rfl⟩, hw⟩
  have hw' := hw.symm
  subst hw'
  clear hw
  cases B with
  | false =>
    go_wp2
    go_ret
    exact ⟨rfl, Below.refl _ _⟩
  | true =>
  by_cases hlen : 65536 < (len : Int)
  · go_wp2
    go_ret
    exact ⟨rfl, Below.refl _ _⟩
  have hld : decide (65536 < (len : Int)) = false := by simpa using hlen
  by_cases hql : 1048576 < (q.size : Int)
  · go_wp2
    go_ret
    exact ⟨rfl, Below.refl _ _⟩
  go_wp2_with fail
  refine (zzPlaceBytes_any a len cap S N _ h).mono ?_
  rintro e w1 ⟨⟨t, ht0, ht1, rfl⟩, hw⟩
  have hw' := hw.symm
  subst hw'
  clear hw
  by_cases ht : 1048576 < t + (q.size : Int)
  · go_wp2
    go_ret
    exact ⟨rfl, Below.refl _ _⟩
  go_wp2_with fail
  refine (passInputs_any a len cap S N _ h (by omega)).mono ?_
  rintro e w2 ⟨hb2, rfl | ⟨rfl, hown, hrow, hap⟩⟩
  · go_wp2
    go_ret
    exact ⟨rfl, hb2⟩
  have hs2 : w.heap.size ≤ w2.heap.size := hb2.size
  have hT : TaskArr w2 a len S N := h.below hb2 (Nat.le_refl _)
  go_wp2
  go_loop [10, 11] (fun kk i => ∃ (k : Nat) (kv : Int), k ≤ len ∧ i = .int .i64 k ∧ kk = .int .i64 kv ∧ Found S q k kv) (fun _ i => len - (intOf i).toNat)
  case atStart => exact ⟨0, _, Nat.zero_le _, rfl, rfl, found_zero _ _⟩
  case round =>
    obtain ⟨k, kv, hk, rfl, rfl, hf⟩ := hrel
    by_cases hlt : k < len
    · obtain ⟨b, off, rfl, hbl, hc0, hc1⟩ := hT.at' (by omega)
      have g0 := hc0 k hlt
      clear hc0 hc1
      cases he : ((S k).toList == q.toList) with
      | true =>
        go_wp2
        go_round
        case rel => exact ⟨k + 1, _, by omega, by go_num, rfl, found_hit (str_eq he)⟩
        case measure => simp [intOf]; omega
      | false =>
        go_wp2
        go_round
        case rel => exact ⟨k + 1, _, by omega, by go_num, rfl, found_miss hf (str_ne he)⟩
        case measure => simp [intOf]; omega
    · have hkl : k = len := by omega
      subst hkl
      go_wp2_with fail
      refine (newPass_any _ _ _ _ _ _ rfl rfl).mono ?_
      rintro e w3 ⟨rfl, hb3, h8, h11⟩
      have hP : PassAt w3 w2.heap.size (w.heap.size + 1) w.heap.size k S N := by
        obtain ⟨V, hr, hst⟩ := hrow
        exact ⟨h8, h11, ownsMap_of_block hown (hb3.block _ hown.lt), ⟨V, hr.of_block (hb3.block _ hr.lt), hst⟩, hap, by omega⟩
      have hT3 : TaskArr w3 a k S N := hT.below hb3 (Nat.le_refl _)
      have hb : Below w.heap.size w w3 := hb2.trans (hb3.mono hs2)
      clear hown hrow hap h8 h11 hb3 hb2
      go_wp2_with fail
      refine (zzAt_any n _ hn0 hn1).mono ?_
      rintro e w4 ⟨rfl, hb4⟩
      have hP4 := hP.below hb4 (Nat.le_refl _)
      have hT4 := hT3.below hb4 (Nat.le_refl _)
      have hbb4 : Below w.heap.size w w4 := hb.trans (hb4.mono hb.size)
      clear hP hT3 hT
      rcases hf with ⟨rfl, hno⟩ | ⟨j, hj, rfl, hs⟩
      · have HN : Hid (∀ j, j < k → S j ≠ q) := hno
        clear hno
        go_wp2_with fail
        refine (passPlace_any w2.heap.size (taskCells q (tns n) (tsec n)) _ rfl 0 false (fun w1 hb1 => place_none w2.heap.size (w.heap.size + 1) w.heap.size k S N _ q n w1 (hP4.below hb1 (Nat.le_refl _)) (taskArg_mk _ _) hq HN.out)).mono ?_
        rintro e w5 ⟨rfl, hb5⟩
        go_wp2
        go_ret
        exact ⟨rfl, hbb4.trans (hb5.mono hbb4.size)⟩
      · subst hs
        have hlo := h.lo j hj
        have hhi := h.hi j hj
        have hj' : ((j : Nat) : Int) < (k : Int) := by omega
        cases hne : (N j == n) with
        | true =>
          have hne' : (n == N j) = true := by rw [← hne]; exact Bool.beq_comm
          go_wp2_with fail
          refine (passPlace_any w2.heap.size (taskCells (S j) (tns n) (tsec n)) _ rfl (j : Int) true (fun w1 hb1 => place_some w2.heap.size (w.heap.size + 1) w.heap.size k S N _ j n w1 (hP4.below hb1 (Nat.le_refl _)) (taskArg_mk _ _) hj hq hne)).mono ?_
          rintro e w5 ⟨rfl, hb5⟩
          have hP5 := hP4.below hb5 (Nat.le_refl _)
          have hT5 := hT4.below hb5 (Nat.le_refl _)
          have hbb5 : Below w.heap.size w w5 := hbb4.trans (hb5.mono hbb4.size)
          obtain ⟨b, off, rfl, hbl, hc0, hc1⟩ := hT5.at' (by omega)
          have k0 := hc0 j hj
          have k1 := hc1 j hj
          clear hc0 hc1 hP4 hT4 hb5 hb4
          go_wp2
          go_region_held3 (fun w' => w'.cell? ⟨b, off + j * 2, none⟩ = some (.string (S j)) ∧ w'.cell? ⟨b, off + j * 2 + 1, none⟩ = some (.int .i64 (N j))) (first | exact q7 | exact q6 | exact ⟨k0, k1⟩)
            (first
              | (go_at_call 18; refine (zzAt_any (N j) _ hlo hhi).mono ?_; rintro e w6 ⟨rfl, hb6'⟩; have hb6 : Below w5.heap.size w5 w6 := (Below.refl w5.heap.size w5).drew.trans hb6'; have q6 : w6.cell? ⟨b, off + j * 2, none⟩ = some (.string (S j)) ∧ w6.cell? ⟨b, off + j * 2 + 1, none⟩ = some (.int .i64 (N j)) := ⟨(hb6.cell (p := ⟨b, off + j * 2, none⟩) hbl).trans k0, (hb6.cell (p := ⟨b, off + j * 2 + 1, none⟩) hbl).trans k1⟩)
              | (go_at_call 17; refine (passPlace_any w2.heap.size (taskCells (S j) (tns (N j)) (tsec (N j))) _ rfl (j : Int) true (fun w1 hb1 => place_some w2.heap.size (w.heap.size + 1) w.heap.size k S N _ j (N j) w1 ((hP5.below hb6 (Nat.le_refl _)).below hb1 (Nat.le_refl _)) (taskArg_mk _ _) hj hq (by simp))).mono ?_; rintro e w7 ⟨rfl, hb7⟩; have q7 : w7.cell? ⟨b, off + j * 2, none⟩ = some (.string (S j)) ∧ w7.cell? ⟨b, off + j * 2 + 1, none⟩ = some (.int .i64 (N j)) := ⟨(hb7.cell (p := ⟨b, off + j * 2, none⟩) (Nat.lt_of_lt_of_le hbl hb6.size)).trans q6.1, (hb7.cell (p := ⟨b, off + j * 2 + 1, none⟩) (Nat.lt_of_lt_of_le hbl hb6.size)).trans q6.2⟩))
          have m1 := q7.2
          have hfin : Below w.heap.size w w7 := (hbb5.trans (hb6.mono hbb5.size)).trans (hb7.mono (Nat.le_trans hbb5.size hb6.size))
          clear k0 k1 q6 q7 hb6 hb6' hb7 hP5 hT5
          go_wp2
          go_ret
          exact ⟨rfl, hfin⟩
        | false =>
          have hne' : (n == N j) = false := by rw [← hne]; exact Bool.beq_comm
          go_wp2_with fail
          refine (passPlace_any w2.heap.size (taskCells (S j) (tns n) (tsec n)) _ rfl 0 false (fun w1 hb1 => place_other w2.heap.size (w.heap.size + 1) w.heap.size k S N _ j n w1 (hP4.below hb1 (Nat.le_refl _)) (taskArg_mk _ _) hj hq hne)).mono ?_
          rintro e w5 ⟨rfl, hb5⟩
          have hP5 := hP4.below hb5 (Nat.le_refl _)
          have hT5 := hT4.below hb5 (Nat.le_refl _)
          have hbb5 : Below w.heap.size w w5 := hbb4.trans (hb5.mono hbb4.size)
          obtain ⟨b, off, rfl, hbl, hc0, hc1⟩ := hT5.at' (by omega)
          have k0 := hc0 j hj
          have k1 := hc1 j hj
          clear hc0 hc1 hP4 hT4 hb5 hb4
          go_wp2
          go_region_held3 (fun w' => w'.cell? ⟨b, off + j * 2, none⟩ = some (.string (S j)) ∧ w'.cell? ⟨b, off + j * 2 + 1, none⟩ = some (.int .i64 (N j))) (first | exact q7 | exact q6 | exact ⟨k0, k1⟩)
            (first
              | (go_at_call 18; refine (zzAt_any (N j) _ hlo hhi).mono ?_; rintro e w6 ⟨rfl, hb6'⟩; have hb6 : Below w5.heap.size w5 w6 := (Below.refl w5.heap.size w5).drew.trans hb6'; have q6 : w6.cell? ⟨b, off + j * 2, none⟩ = some (.string (S j)) ∧ w6.cell? ⟨b, off + j * 2 + 1, none⟩ = some (.int .i64 (N j)) := ⟨(hb6.cell (p := ⟨b, off + j * 2, none⟩) hbl).trans k0, (hb6.cell (p := ⟨b, off + j * 2 + 1, none⟩) hbl).trans k1⟩)
              | (go_at_call 17; refine (passPlace_any w2.heap.size (taskCells (S j) (tns (N j)) (tsec (N j))) _ rfl (j : Int) true (fun w1 hb1 => place_some w2.heap.size (w.heap.size + 1) w.heap.size k S N _ j (N j) w1 ((hP5.below hb6 (Nat.le_refl _)).below hb1 (Nat.le_refl _)) (taskArg_mk _ _) hj hq (by simp))).mono ?_; rintro e w7 ⟨rfl, hb7⟩; have q7 : w7.cell? ⟨b, off + j * 2, none⟩ = some (.string (S j)) ∧ w7.cell? ⟨b, off + j * 2 + 1, none⟩ = some (.int .i64 (N j)) := ⟨(hb7.cell (p := ⟨b, off + j * 2, none⟩) (Nat.lt_of_lt_of_le hbl hb6.size)).trans q6.1, (hb7.cell (p := ⟨b, off + j * 2 + 1, none⟩) (Nat.lt_of_lt_of_le hbl hb6.size)).trans q6.2⟩))
          have m1 := q7.2
          have hfin : Below w.heap.size w w7 := (hbb5.trans (hb6.mono hbb5.size)).trans (hb7.mono (Nat.le_trans hbb5.size hb6.size))
          clear k0 k1 q6 q7 hb6 hb6' hb7 hP5 hT5
          go_wp2
          go_ret
          exact ⟨rfl, hfin⟩
end Go.Proofs.Qxb6616021aMods

import Derived.Test.Qxb6616021aModsPlace
namespace Go.Proofs.Qxb6616021aMods
open Go.ChangeShapes Go.WideShapes Go.ChangeAt Go.RowKit Go.Maps Go.WideMaps

theorem TaskArr.below {w w' : World} {a : Option Addr} {len : Nat} {S : Nat → ByteArray} {N : Nat → Int} (h : TaskArr w a len S N) {B : Nat} (hb : Below B w w') (hB : w.heap.size ≤ B) : TaskArr w' a len S N :=
  ⟨fun h0 => by
    obtain ⟨b, off, e, hl, h1, h2⟩ := h.at' h0
    exact ⟨b, off, e, Nat.lt_of_lt_of_le hl hb.size, fun i hi => (hb.cell (p := ⟨b, off + i * 2, none⟩) (by show b < B; omega)).trans (h1 i hi), fun i hi => (hb.cell (p := ⟨b, off + i * 2 + 1, none⟩) (by show b < B; omega)).trans (h2 i hi)⟩,
   h.small, h.sizes, h.lo, h.hi⟩

theorem PassAt.below {w w' : World} {pb g m len : Nat} {S : Nat → ByteArray} {N : Nat → Int} (h : PassAt w pb g m len S N) {B : Nat} (hb : Below B w w') (hB : w.heap.size ≤ B) : PassAt w' pb g m len S N := by
  obtain ⟨h1, h2, h3, ⟨V, h4, h5⟩, h6, h7⟩ := h
  have b1 : pb < w.heap.size := World.block_lt_of_cell? w _ h1
  have b2 := h3.lt
  have b3 := h4.lt
  exact ⟨(hb.cell (p := ⟨pb, 8, none⟩) (by show pb < B; omega)).trans h1, (hb.cell (p := ⟨pb, 11, none⟩) (by show pb < B; omega)).trans h2, ownsMap_of_block h3 (hb.block _ (by omega)), ⟨V, h4.of_block (hb.block _ (by omega)), h5⟩, h6, h7⟩

theorem taskArg_mk (s : ByteArray) (n : Int) : TaskArg (List.toArray (taskCells s (tns n) (tsec n))) s n := ⟨rfl, rfl, rfl, rfl, rfl⟩

set_option maxHeartbeats 1000000 in
set_option maxRecDepth 100000 in
theorem walk4 (a : Option Addr) (len cap : Nat) (S : Nat → ByteArray) (N : Nat → Int) (w : World) (h : TaskArr w a len S N) :
    Calls Trym.prog 4 #[.slice a len cap] w fun e w' => e = .returned (.bool true) ∧ Below w.heap.size w w' := by
  have hm := h.small
  unfold maxLen at hm
  go_enter Trym.func4, Trym.ntmps4
  go_wp2_with fail
  refine (zzBytes_any a len cap S N _ h).mono ?_
  rintro e w1 ⟨⟨B, rfl⟩, hw⟩
  have hw' := hw.symm
  subst hw'
  clear hw
  cases B with
  | false =>
    go_wp2
    go_ret
    exact ⟨rfl, Below.refl _ _⟩
  | true =>
  by_cases hlen : 65536 < (len : Int)
  · go_wp2
    go_ret
    exact ⟨rfl, Below.refl _ _⟩
  go_wp2_with fail
  refine (zzPlaceBytes_any a len cap S N _ h).mono ?_
  rintro e w1 ⟨⟨t, ht0, ht1, rfl⟩, hw⟩
  have hw' := hw.symm
  subst hw'
  clear hw
  by_cases ht : 1048576 < t
  · go_wp2
    go_ret
    exact ⟨rfl, Below.refl _ _⟩
  go_wp2_with fail
  refine (passInputs_any a len cap S N _ h (by omega)).mono ?_
  rintro e w2 ⟨hb2, rfl | ⟨rfl, hown, hrow, hap⟩⟩
  · go_wp2
    go_ret
    exact ⟨rfl, hb2⟩
  go_wp2_with fail
  refine (newPass_any _ _ _ _ _ _ rfl rfl).mono ?_
  rintro e w3 ⟨rfl, hb3, h8, h11⟩
  have hs2 : w.heap.size ≤ w2.heap.size := hb2.size
  have hP : PassAt w3 w2.heap.size (w.heap.size + 1) w.heap.size len S N := by
    obtain ⟨V, hr, hst⟩ := hrow
    exact ⟨h8, h11, ownsMap_of_block hown (hb3.block _ hown.lt), ⟨V, hr.of_block (hb3.block _ hr.lt), hst⟩, hap, by omega⟩
  have hT : TaskArr w3 a len S N := (h.below hb2 (Nat.le_refl _)).below hb3 (Nat.le_refl _)
  have hb : Below w.heap.size w w3 := hb2.trans (hb3.mono hs2)
  clear hown hrow hap h8 h11 hb3 hb2
  go_wp2
  go_loopw [7] (fun i wr => ∃ k : Nat, k ≤ len ∧ i = .int .i64 k ∧ Below w3.heap.size w3 wr)
    (fun i _ => len - (intOf i).toNat)
  case atStart => exact ⟨0, Nat.zero_le _, rfl, Below.refl _ _⟩
  case round =>
    obtain ⟨k, hk, rfl, hnx⟩ := hrel
    have hTr := hT.below hnx (Nat.le_refl _)
    have hPr := hP.below hnx (Nat.le_refl _)
    by_cases hlt : k < len
    · obtain ⟨b, off, rfl, hbl, hc0, hc1⟩ := hTr.at' (by omega)
      have k0 := hc0 k hlt
      have k1 := hc1 k hlt
      have hlo := h.lo k hlt
      have hhi := h.hi k hlt
      have hsz := h.sizes k hlt
      clear hc0 hc1
      go_wp2
      go_region_held3 (fun w' => w'.cell? ⟨b, off + k * 2, none⟩ = some (.string (S k)) ∧ w'.cell? ⟨b, off + k * 2 + 1, none⟩ = some (.int .i64 (N k))) (first | exact q5 | exact q4 | exact ⟨k0, k1⟩)
        (first
          | (go_at_call 18; refine (zzAt_any (N k) _ hlo hhi).mono ?_; rintro e w4 ⟨rfl, hb4'⟩; have hb4 : Below wr.heap.size wr w4 := (Below.refl wr.heap.size wr).drew.trans hb4'; have q4 : w4.cell? ⟨b, off + k * 2, none⟩ = some (.string (S k)) ∧ w4.cell? ⟨b, off + k * 2 + 1, none⟩ = some (.int .i64 (N k)) := ⟨(hb4.cell (p := ⟨b, off + k * 2, none⟩) hbl).trans k0, (hb4.cell (p := ⟨b, off + k * 2 + 1, none⟩) hbl).trans k1⟩)
          | (go_at_call 17; refine (passPlace_any w2.heap.size (taskCells (S k) (tns (N k)) (tsec (N k))) _ rfl (k : Int) true (fun w1 hb1 => place_some w2.heap.size (w.heap.size + 1) w.heap.size len S N _ k (N k) w1 ((hPr.below hb4 (Nat.le_refl _)).below hb1 (Nat.le_refl _)) (taskArg_mk _ _) hlt hsz (by simp))).mono ?_; rintro e w5 ⟨rfl, hb5⟩; have q5 : w5.cell? ⟨b, off + k * 2, none⟩ = some (.string (S k)) ∧ w5.cell? ⟨b, off + k * 2 + 1, none⟩ = some (.int .i64 (N k)) := ⟨(hb5.cell (p := ⟨b, off + k * 2, none⟩) (Nat.lt_of_lt_of_le hbl hb4.size)).trans q4.1, (hb5.cell (p := ⟨b, off + k * 2 + 1, none⟩) (Nat.lt_of_lt_of_le hbl hb4.size)).trans q4.2⟩))
      go_wp2
      go_roundw
      case rel => exact ⟨k + 1, by omega, by go_num, hnx.trans ((hb4.mono hnx.size).trans (hb5.mono (Nat.le_trans hnx.size hb4.size)))⟩
      case measure => simp [intOf]; omega
    · go_wp2
      go_ret
      exact ⟨rfl, hb.trans (hnx.mono hb.size)⟩
end Go.Proofs.Qxb6616021aMods

import Derived.Test.Qxb6616454aLawC
/-! THE WALK of FnTorrentFileSortsAsHashes. -/
namespace Go.Proofs.Qxb6616454a
open Go.RowKit

/-- The name of a torrent's file. -/
def fileName (xs : List Int) : ByteArray := hexText xs ++ suffix

theorem fileName_list (xs : List Int) : (fileName xs).data.toList = Go.Lib.Hx.encode (Lib.bytesOf xs) ++ suffix.data.toList := by
  simp [fileName, hexText]

theorem fileName_size (xs : List Int) : (fileName xs).size = 2 * xs.length + 8 := by
  show (fileName xs).data.toList.length = _
  rw [fileName_list, List.length_append, Go.Lib.Hx.encode_length, bytesOf_length]
  rfl

theorem fileName_tail (xs : List Int) (h : xs.length = 20) : (fileName xs).extract 40 48 = ⟨#[46, 116, 111, 114, 114, 101, 110, 116]⟩ := by
  have e1 : (hexText xs).size = 40 := by rw [hexText_size, h]
  have := ByteArray.extract_append_eq_right (a := hexText xs) (b := suffix) (i := 40) (j := 48) (by omega) (by rw [e1]; rfl)
  exact this

theorem fileName_head (xs : List Int) (h : xs.length = 20) : (fileName xs).extract 0 40 = hexText xs := by
  have e1 : (hexText xs).size = 40 := by rw [hexText_size, h]
  have := ByteArray.extract_append_eq_left (a := hexText xs) (b := suffix) (i := 40) (by omega)
  exact this

theorem cmp_file (xs ys : List Int) (hl : xs.length = ys.length) (hx : ∀ i, i < xs.length → 0 ≤ xs.getD i 0 ∧ xs.getD i 0 < 256) (hy : ∀ i, i < ys.length → 0 ≤ ys.getD i 0 ∧ ys.getD i 0 < 256) :
    cmpS (fileName xs) (fileName ys) = lexCmp xs ys := by
  have h := lexCmp_encode suffix.data.toList (Lib.bytesOf xs) (Lib.bytesOf ys) (by rw [bytesOf_length, bytesOf_length, hl])
  rw [nums_bytesOf xs hx, nums_bytesOf ys hy, ← fileName_list, ← fileName_list] at h
  exact h

set_option maxHeartbeats 400000 in
theorem lawA (xs ys : List Int) (w : World) (hx : xs.length = 20) (hy : ys.length = 20) (hrx : ∀ i, i < 20 → 0 ≤ xs.getD i 0 ∧ xs.getD i 0 < 256) (hry : ∀ i, i < 20 → 0 ≤ ys.getD i 0 ∧ ys.getD i 0 < 256) :
    Calls Try.prog 3 #[.agg (cu8 xs), .agg (cu8 ys)] w fun e w' => e = .returned (.bool true) ∧ Below w.heap.size w w' := by
  have HX : Hid (xs.length = 20) := hx
  have HY : Hid (ys.length = 20) := hy
  have HRX : Hid (∀ i, i < 20 → 0 ≤ xs.getD i 0 ∧ xs.getD i 0 < 256) := hrx
  have HRY : Hid (∀ i, i < 20 → 0 ≤ ys.getD i 0 ∧ ys.getD i 0 < 256) := hry
  clear hx hy hrx hry
  obtain ⟨na, hna⟩ : ∃ na, na = fileName xs := ⟨_, rfl⟩
  obtain ⟨nb, hnb⟩ : ∃ nb, nb = fileName ys := ⟨_, rfl⟩
  have KX : Hid (∀ w, Calls Try.prog 6 #[.agg (cu8 xs)] w fun e w' => e = .returned (.string na) ∧ Below w.heap.size w w') := fun w => by rw [hna]; exact zzTorrentFile_any xs w HX.out HRX.out
  have KY : Hid (∀ w, Calls Try.prog 6 #[.agg (cu8 ys)] w fun e w' => e = .returned (.string nb) ∧ Below w.heap.size w w') := fun w => by rw [hnb]; exact zzTorrentFile_any ys w HY.out HRY.out
  have SX : Hid (na.size = 48) := by show _ = _; rw [hna, fileName_size, HX.out]
  have SY : Hid (nb.size = 48) := by show _ = _; rw [hnb, fileName_size, HY.out]
  have hsuf : na.extract 40 48 = ⟨#[46, 116, 111, 114, 114, 101, 110, 116]⟩ := by rw [hna]; exact fileName_tail xs HX.out
  have hpre : na.extract 0 40 = hexText xs := by rw [hna]; exact fileName_head xs HX.out
  have hcmp : cmpS na nb = lexCmp xs ys := by rw [hna, hnb]; exact cmp_file xs ys (by rw [HX.out, HY.out]) (by rw [HX.out]; exact HRX.out) (by rw [HY.out]; exact HRY.out)
  clear hna hnb
  have HI : Hid ((Try.prog.info? 22).map (·.size) = some (cu8 xs).size) := by show _ = _; rw [cu8_size, HX.out]; kernel_rfl
  have HJ : Hid ((Try.prog.info? 22).map (·.size) = some (cu8 ys).size) := by show _ = _; rw [cu8_size, HY.out]; kernel_rfl
  go_enter Try.func3, Try.ntmps3
  go_wp2_with (refine wpList_load_row rfl 22 _ rfl w.heap.size rfl 22 (cu8 xs) (0, 0) _ (heap_alloc2_old w _ _) Try.underlying22 rfl HI.out ?_)
  refine (KX.out _).mono ?_
  rintro e w1 ⟨rfl, hb1⟩
  have A1 : Hid (w1.heap[w.heap.size]? = some (.cells (cu8 xs) 22 (0, 0))) := by show _ = _; rw [hb1.block _ (by simp; omega)]; exact heap_alloc2_old w _ _
  have B1 : Hid (w1.heap[w.heap.size + 1]? = some (.cells (cu8 ys) 22 (0, 0))) := by show _ = _; rw [hb1.block _ (by simp)]; exact heap_alloc2_new w _ _
  have S1 : w.heap.size + 2 ≤ w1.heap.size := by have := hb1.size; simp at this; omega
  have L1 : Below w.heap.size w w1 := (((Below.refl _ w).alloc (Nat.le_refl _) _).alloc (by simp) _).trans (hb1.mono (by simp; omega))
  clear hb1
  go_wp2_with (refine wpList_load_row rfl 22 _ rfl (w.heap.size + 1) rfl 22 (cu8 ys) (0, 0) _ B1.out Try.underlying22 rfl HJ.out ?_)
  refine (KY.out _).mono ?_
  rintro e w2 ⟨rfl, hb2⟩
  have A2 : Hid (w2.heap[w.heap.size]? = some (.cells (cu8 xs) 22 (0, 0))) := by show _ = _; rw [hb2.block _ (by omega)]; exact A1.out
  have B2 : Hid (w2.heap[w.heap.size + 1]? = some (.cells (cu8 ys) 22 (0, 0))) := by show _ = _; rw [hb2.block _ (by omega)]; exact B1.out
  have S2 : w.heap.size + 2 ≤ w2.heap.size := by have := hb2.size; omega
  have L2 : Below w.heap.size w w2 := L1.trans (hb2.mono (by omega))
  clear A1 B1 S1 L1 hb2
  have R1 : w2.rangeAt w.heap.size 0 (cl xs) := range_of_row A2.out
  have R2 : w2.rangeAt (w.heap.size + 1) 0 (cl ys) := range_of_row B2.out
  have i1 : (Try.prog.info? 22).map (·.size) = some (cl xs).length := by rw [cl_length, HX.out]; kernel_rfl
  have i2 : (Try.prog.info? 22).map (·.size) = some (cl ys).length := by rw [cl_length, HY.out]; kernel_rfl
  have HP : Hid (Spelt (hexText xs) xs 20) := spelt_hex xs 20 HX.out HRX.out
  have HZ : Hid ((hexText xs).size = 40) := by show _ = _; rw [hexText_size, HX.out]
  go_wp2_with fail
  refine wp_region_held (S := fun wz => wz.rangeAt w.heap.size 0 (cl xs) ∧ wz.rangeAt (w.heap.size + 1) 0 (cl ys)) (by kernel_rfl) ?_
  change wpAnyH _ _ _ _ _ _ _ _ (World.drew _)
  refine wpAnyH_take (i := 0) (v := .string na) rfl (by kernel_rfl) (by kernel_rfl) (by kernel_rfl) (fun _ _ _ h => h) (.inl ⟨by rfl, fun _ _ => rfl⟩) ⟨R1, R2⟩ ?_
  refine wpAnyH_take (i := 1) (v := .string nb) rfl (by kernel_rfl) (by kernel_rfl) (by kernel_rfl) (fun _ _ _ h => h) (.inl ⟨by rfl, fun _ _ => rfl⟩) ⟨R1, R2⟩ ?_
  refine wpAnyH_take (i := 3) (v := .agg (cu8 xs)) rfl (by kernel_rfl) (by kernel_rfl) (by kernel_rfl) (fun _ _ _ h => h) (yieldsIf_load_mid (by rfl) 22 _ rfl _ _ rfl (cl xs) _ (fun _ h => h.1) Try.underlying22 rfl i1) ⟨R1, R2⟩ ?_
  refine wpAnyH_take (i := 4) (v := .agg (cu8 ys)) rfl (by kernel_rfl) (by kernel_rfl) (by kernel_rfl) (fun _ _ _ h => h) (yieldsIf_load_mid (by rfl) 22 _ rfl _ _ rfl (cl ys) _ (fun _ h => h.2) Try.underlying22 rfl i2) ⟨R1, R2⟩ ?_
  refine wpAnyH_all (rs := [2]) (by kernel_rfl) (by simp) ?_
  intro i hi
  obtain rfl : i = 2 := by simpa using hi
  clear hi
  refine wpOp_step rfl (fun K hK => ?_)
  go_simp
  refine (cmpStrings _ _ 48 _ SX.out SY.out (by omega)).mono ?_
  rintro e w' ⟨rfl, n, rfl⟩
  refine hK _ _ ⟨⟨R1, R2⟩, ?_⟩
  clear hK K
  refine wpAnyH_all (rs := [5]) (by kernel_rfl) (by simp) ?_
  intro i hi
  obtain rfl : i = 5 := by simpa using hi
  clear hi
  refine wpOp_step rfl (fun K hK => ?_)
  go_simp
  refine (cmp20 xs ys _ HX.out HY.out HRX.out HRY.out).mono ?_
  rintro e w3 ⟨rfl, hb3⟩
  have R3 : w3.rangeAt w.heap.size 0 (cl xs) := range_below hb3 (by simp; omega) R1
  have L3 : Below w.heap.size w w3 := (below_drewN L2 _).trans (hb3.mono (by simp; omega))
  have S3 : w.heap.size + 2 ≤ w3.heap.size := by have := hb3.size; simp at this; omega
  have R4 : w3.rangeAt (w.heap.size + 1) 0 (cl ys) := range_below hb3 (by simp; omega) R2
  refine hK _ _ ⟨⟨R3, R4⟩, ?_⟩
  clear hK K hb3 R1 R2
  refine wpAnyH_all (rs := [6]) (by kernel_rfl) (by simp) ?_
  intro i hi
  obtain rfl : i = 6 := by simpa using hi
  clear hi
  refine wpOp_step rfl (fun K hK => ?_)
  go_simp
  refine hK _ _ ⟨⟨R3, R4⟩, ?_⟩
  clear hK K R4
  refine wpAnyH_done (by kernel_rfl) ?_ _
  have hsx : na.size = 48 := SX.out
  go_wp2
  refine wp_region_held (S := fun wz => wz.rangeAt w.heap.size 0 (cl xs)) (by kernel_rfl) ?_
  change wpAnyH _ _ _ _ _ _ _ _ (World.drew _)
  refine wpAnyH_take (i := 0) (v := .string na) rfl (by kernel_rfl) (by kernel_rfl) (by kernel_rfl) (fun _ _ _ h => h) (.inl ⟨by rfl, fun _ _ => rfl⟩) R3 ?_
  refine wpAnyH_take (i := 1) (v := .string (hexText xs)) rfl (by kernel_rfl) (by kernel_rfl) (by kernel_rfl) (fun _ _ _ h => h) (.inl ⟨by rfl, fun _ _ => by go_simp⟩) R3 ?_
  refine wpAnyH_take (i := 2) (v := .agg (cu8 xs)) rfl (by kernel_rfl) (by kernel_rfl) (by kernel_rfl) (fun _ _ _ h => h) (yieldsIf_load_mid (by rfl) 22 _ rfl _ _ rfl (cl xs) _ (fun _ h => h) Try.underlying22 rfl i1) R3 ?_
  refine wpAnyH_all (rs := [3]) (by kernel_rfl) (by simp) ?_
  intro i hi
  obtain rfl : i = 3 := by simpa using hi
  clear hi
  refine wpOp_step rfl (fun K hK => ?_)
  go_simp
  refine (spells20 _ xs _ HZ.out HX.out HP.out).mono ?_
  rintro e w4 ⟨rfl, hb4⟩
  have R5 : w4.rangeAt w.heap.size 0 (cl xs) := range_below hb4 (by simp; omega) R3
  refine hK _ _ ⟨R5, ?_⟩
  clear hK K
  refine wpAnyH_all (rs := [4]) (by kernel_rfl) (by simp) ?_
  intro i hi
  obtain rfl : i = 4 := by simpa using hi
  clear hi
  refine wpOp_step rfl (fun K hK => ?_)
  go_simp
  refine hK _ _ ⟨R5, ?_⟩
  clear hK K
  refine wpAnyH_done (by kernel_rfl) ?_ _
  go_wp2
  go_ret
  exact ⟨rfl, L3.drew.trans (hb4.mono (by simp; omega))⟩
end Go.Proofs.Qxb6616454a

import Derived.Test.Qxb6616454aW2
import Derived.Test.Qxb6616454aW3
import Derived.Deep.RegionHeld
namespace Go.Proofs.Qxb6616454a
open Go.RowKit

/-- The cells of an array of bytes, as a list. -/
def cl (xs : List Int) : List Value := xs.map fun x => Value.int .u8 x

theorem cl_length (xs : List Int) : (cl xs).length = xs.length := by simp [cl]

theorem range_of_row {w : World} {g : Nat} {xs : List Int} {T : TypeId} (h : w.heap[g]? = some (.cells (cu8 xs) T (0, 0))) : w.rangeAt g 0 (cl xs) := by
  intro j v hv
  rw [Nat.zero_add, cell_of_row w g j _ _ _ h]
  show (cl xs).toArray[j]? = some v
  simpa using hv

theorem range_below {w w' : World} {g : Nat} {cs : List Value} (hb : Below w.heap.size w w') (hg : g < w.heap.size) (h : w.rangeAt g 0 cs) : w'.rangeAt g 0 cs := by
  intro j v hv
  rw [hb.cell (p := ⟨g, 0 + j, none⟩) hg]
  exact h j v hv

theorem cmp_hex (xs ys : List Int) (hl : xs.length = ys.length) (hx : ∀ i, i < xs.length → 0 ≤ xs.getD i 0 ∧ xs.getD i 0 < 256) (hy : ∀ i, i < ys.length → 0 ≤ ys.getD i 0 ∧ ys.getD i 0 < 256) :
    cmpS (hexText xs) (hexText ys) = lexCmp xs ys := by
  have h := lexCmp_encode [] (Lib.bytesOf xs) (Lib.bytesOf ys) (by rw [bytesOf_length, bytesOf_length, hl])
  rw [nums_bytesOf xs hx, nums_bytesOf ys hy, List.append_nil, List.append_nil] at h
  exact h

theorem spelt_hex (xs : List Int) (n : Nat) (hl : xs.length = n) (hx : ∀ i, i < n → 0 ≤ xs.getD i 0 ∧ xs.getD i 0 < 256) : Spelt (hexText xs) xs n := by
  intro i hi h1 h2
  subst hl
  refine spell xs hx i hi _ _ ?_ ?_
  · show (hexText xs).data.toList[2 * i]? = _
    rw [List.getElem?_eq_getElem (by exact h1)]; rfl
  · show (hexText xs).data.toList[2 * i + 1]? = _
    rw [List.getElem?_eq_getElem (by exact h2)]; rfl

set_option maxHeartbeats 400000 in
theorem lawC (xs ys : List Int) (w : World) (hx : xs.length = 32) (hy : ys.length = 32) (hrx : ∀ i, i < 32 → 0 ≤ xs.getD i 0 ∧ xs.getD i 0 < 256) (hry : ∀ i, i < 32 → 0 ≤ ys.getD i 0 ∧ ys.getD i 0 < 256) :
    Calls Try.prog 5 #[.agg (cu8 xs), .agg (cu8 ys)] w fun e w' => e = .returned (.bool true) ∧ Below w.heap.size w w' := by
  have HX : Hid (xs.length = 32) := hx
  have HY : Hid (ys.length = 32) := hy
  have HRX : Hid (∀ i, i < 32 → 0 ≤ xs.getD i 0 ∧ xs.getD i 0 < 256) := hrx
  have HRY : Hid (∀ i, i < 32 → 0 ≤ ys.getD i 0 ∧ ys.getD i 0 < 256) := hry
  clear hx hy hrx hry
  have HI : Hid ((Try.prog.info? 30).map (·.size) = some (cu8 xs).size) := by show _ = _; rw [cu8_size, HX.out]; kernel_rfl
  have HJ : Hid ((Try.prog.info? 30).map (·.size) = some (cu8 ys).size) := by show _ = _; rw [cu8_size, HY.out]; kernel_rfl
  have SX : Hid ((hexText xs).size = 64) := by show _ = _; rw [hexText_size, HX.out]
  have SY : Hid ((hexText ys).size = 64) := by show _ = _; rw [hexText_size, HY.out]
  go_enter Try.func5, Try.ntmps5
  go_wp2_with (refine wpList_load_row rfl 30 _ rfl w.heap.size rfl 30 (cu8 xs) (0, 0) _ (heap_alloc2_old w _ _) Try.underlying30 rfl HI.out ?_)
  refine (idString xs _ HX.out HRX.out).mono ?_
  rintro e w1 ⟨rfl, hb1⟩
  have A1 : Hid (w1.heap[w.heap.size]? = some (.cells (cu8 xs) 30 (0, 0))) := by show _ = _; rw [hb1.block _ (by simp; omega)]; exact heap_alloc2_old w _ _
  have B1 : Hid (w1.heap[w.heap.size + 1]? = some (.cells (cu8 ys) 30 (0, 0))) := by show _ = _; rw [hb1.block _ (by simp)]; exact heap_alloc2_new w _ _
  have S1 : w.heap.size + 2 ≤ w1.heap.size := by have := hb1.size; simp at this; omega
  have L1 : Below w.heap.size w w1 := (((Below.refl _ w).alloc (Nat.le_refl _) _).alloc (by simp) _).trans (hb1.mono (by simp; omega))
  clear hb1
  go_wp2_with (refine wpList_load_row rfl 30 _ rfl (w.heap.size + 1) rfl 30 (cu8 ys) (0, 0) _ B1.out Try.underlying30 rfl HJ.out ?_)
  refine (idString ys _ HY.out HRY.out).mono ?_
  rintro e w2 ⟨rfl, hb2⟩
  have A2 : Hid (w2.heap[w.heap.size]? = some (.cells (cu8 xs) 30 (0, 0))) := by show _ = _; rw [hb2.block _ (by omega)]; exact A1.out
  have B2 : Hid (w2.heap[w.heap.size + 1]? = some (.cells (cu8 ys) 30 (0, 0))) := by show _ = _; rw [hb2.block _ (by omega)]; exact B1.out
  have S2 : w.heap.size + 2 ≤ w2.heap.size := by have := hb2.size; omega
  have L2 : Below w.heap.size w w2 := L1.trans (hb2.mono (by omega))
  clear A1 B1 S1 L1 hb2
  have R1 : w2.rangeAt w.heap.size 0 (cl xs) := range_of_row A2.out
  have R2 : w2.rangeAt (w.heap.size + 1) 0 (cl ys) := range_of_row B2.out
  have u30 := Try.underlying30
  have i1 : (Try.prog.info? 30).map (·.size) = some (cl xs).length := by rw [cl_length, HX.out]; kernel_rfl
  have i2 : (Try.prog.info? 30).map (·.size) = some (cl ys).length := by rw [cl_length, HY.out]; kernel_rfl
  have hcmp : cmpS (hexText xs) (hexText ys) = lexCmp xs ys := cmp_hex xs ys (by rw [HX.out, HY.out]) (by rw [HX.out]; exact HRX.out) (by rw [HY.out]; exact HRY.out)
  have HP : Hid (Spelt (hexText xs) xs 32) := spelt_hex xs 32 HX.out HRX.out
  go_wp2_with fail
  refine wp_region_held (S := fun wz => wz.rangeAt w.heap.size 0 (cl xs) ∧ wz.rangeAt (w.heap.size + 1) 0 (cl ys)) (by kernel_rfl) ?_
  change wpAnyH _ _ _ _ _ _ _ _ (World.drew _)
  refine wpAnyH_take (i := 0) (v := .string (hexText xs)) rfl (by kernel_rfl) (by kernel_rfl) (by kernel_rfl) (fun _ _ _ h => h) (.inl ⟨by rfl, fun _ _ => rfl⟩) ⟨R1, R2⟩ ?_
  refine wpAnyH_take (i := 1) (v := .string (hexText ys)) rfl (by kernel_rfl) (by kernel_rfl) (by kernel_rfl) (fun _ _ _ h => h) (.inl ⟨by rfl, fun _ _ => rfl⟩) ⟨R1, R2⟩ ?_
  refine wpAnyH_take (i := 3) (v := .agg (cu8 xs)) rfl (by kernel_rfl) (by kernel_rfl) (by kernel_rfl) (fun _ _ _ h => h) (yieldsIf_load_mid (by rfl) 30 _ rfl _ _ rfl (cl xs) _ (fun _ h => h.1) Try.underlying30 rfl i1) ⟨R1, R2⟩ ?_
  refine wpAnyH_take (i := 4) (v := .agg (cu8 ys)) rfl (by kernel_rfl) (by kernel_rfl) (by kernel_rfl) (fun _ _ _ h => h) (yieldsIf_load_mid (by rfl) 30 _ rfl _ _ rfl (cl ys) _ (fun _ h => h.2) Try.underlying30 rfl i2) ⟨R1, R2⟩ ?_
  refine wpAnyH_all (rs := [2]) (by kernel_rfl) (by simp) ?_
  intro i hi
  obtain rfl : i = 2 := by simpa using hi
  clear hi
  refine wpOp_step rfl (fun K hK => ?_)
  go_simp
  refine (cmpStrings _ _ 64 _ SX.out SY.out (by omega)).mono ?_
  rintro e w' ⟨rfl, n, rfl⟩
  refine hK _ _ ⟨⟨R1, R2⟩, ?_⟩
  clear hK K
  refine wpAnyH_all (rs := [5]) (by kernel_rfl) (by simp) ?_
  intro i hi
  obtain rfl : i = 5 := by simpa using hi
  clear hi
  refine wpOp_step rfl (fun K hK => ?_)
  go_simp
  refine (cmp32 xs ys _ HX.out HY.out HRX.out HRY.out).mono ?_
  rintro e w3 ⟨rfl, hb3⟩
  have R3 : w3.rangeAt w.heap.size 0 (cl xs) := range_below hb3 (by simp; omega) R1
  have L3 : Below w.heap.size w w3 := (below_drewN L2 _).trans (hb3.mono (by simp; omega))
  have R4 : w3.rangeAt (w.heap.size + 1) 0 (cl ys) := range_below hb3 (by simp; omega) R2
  refine hK _ _ ⟨⟨R3, R4⟩, ?_⟩
  clear hK K hb3 R1 R2
  refine wpAnyH_all (rs := [6]) (by kernel_rfl) (by simp) ?_
  intro i hi
  obtain rfl : i = 6 := by simpa using hi
  clear hi
  refine wpOp_step rfl (fun K hK => ?_)
  go_simp
  refine hK _ _ ⟨⟨R3, R4⟩, ?_⟩
  clear hK K R4
  refine wpAnyH_done (by kernel_rfl) ?_ _
  go_wp2_with (first
    | (refine wpList_load_mid rfl 30 _ rfl _ _ rfl (cl xs) _ R3 Try.underlying30 rfl i1 ?_)
    | (go_at_call 11; refine (spells32 _ xs _ SX.out HX.out HP.out).mono ?_; rintro e w4 ⟨rfl, hb4⟩))
  go_ret
  exact ⟨rfl, L3.trans (hb4.mono (by have := L3.size; omega))⟩
end Go.Proofs.Qxb6616454a

import Derived.Test.Qxb6616454aLawA
/-! THE WALK of FnTorrentFileAndInstanceIDSpellAlike. -/
namespace Go.Proofs.Qxb6616454a
open Go.RowKit

/-- The three blocks that the law lays: the hash, the tail, the id (which holds 'zs'). -/
structure St (w : World) (hs ts : List Int) (wr : World) (zs : List Int) : Prop where
  below : Below w.heap.size w wr
  size : wr.heap.size = w.heap.size + 3
  b0 : wr.heap[w.heap.size]? = some (.cells (cu8 hs) 22 (0, 0))
  b1 : wr.heap[w.heap.size + 1]? = some (.cells (cu8 ts) 29 (0, 0))
  b2 : wr.heap[w.heap.size + 1 + 1]? = some (.cells (cu8 zs) 30 (0, 0))

theorem St.start (w : World) (hs ts : List Int) : St w hs ts (((w.alloc (.cells (cu8 hs) 22)).alloc (.cells (cu8 ts) 29)).alloc (.cells #[.int .u8 0, .int .u8 0, .int .u8 0, .int .u8 0, .int .u8 0, .int .u8 0, .int .u8 0, .int .u8 0, .int .u8 0, .int .u8 0, .int .u8 0, .int .u8 0, .int .u8 0, .int .u8 0, .int .u8 0, .int .u8 0, .int .u8 0, .int .u8 0, .int .u8 0, .int .u8 0, .int .u8 0, .int .u8 0, .int .u8 0, .int .u8 0, .int .u8 0, .int .u8 0, .int .u8 0, .int .u8 0, .int .u8 0, .int .u8 0, .int .u8 0, .int .u8 0] 30)) (hs.take 0 ++ List.replicate (32 - 0) 0) where
  below := (((Below.refl _ w).alloc (Nat.le_refl _) _).alloc (by simp) _).alloc (by simp; omega) _
  size := by simp
  b0 := by rw [Below.heap_alloc _ _ _ (by simp; omega)]; exact heap_alloc2_old w _ _
  b1 := by rw [Below.heap_alloc _ _ _ (by simp)]; exact heap_alloc2_new w _ _
  b2 := by
    have h := heap_alloc2_new (w.alloc (.cells (cu8 hs) 22)) (.cells (cu8 ts) 29) (.cells (cu8 (List.replicate 32 0)) 30)
    simpa [cu8] using h

theorem St.set {w : World} {hs ts : List Int} {wr : World} {zs : List Int} (h : St w hs ts wr zs) (i : Nat) (x : Int) :
    St w hs ts (wr.setCell ⟨w.heap.size + 1 + 1, i, none⟩ (.int .u8 x)) (zs.set i x) where
  below := h.below.setCell (by show w.heap.size ≤ w.heap.size + 1 + 1; omega) _
  size := by simp [h.size]
  b0 := by rw [heap_setCell_other _ _ _ _ (by show w.heap.size ≠ w.heap.size + 1 + 1; omega)]; exact h.b0
  b1 := by rw [heap_setCell_other _ _ _ _ (by simp)]; exact h.b1
  b2 := by
    rw [heap_setCell_same _ _ _ _ _ _ h.b2]
    simp [cu8, List.map_set]

theorem set_first (hs : List Int) (n k : Nat) (hk : k < hs.length) (hn : hs.length ≤ n) : (hs.take k ++ List.replicate (n - k) 0).set k (hs.getD k 0) = hs.take (k + 1) ++ List.replicate (n - (k + 1)) 0 := by
  have e : n - k = (n - (k + 1)) + 1 := by omega
  have hl : (hs.take k).length = k := by rw [List.length_take]; omega
  rw [e, List.replicate_succ, List.set_append_right _ _ (by omega), hl, Nat.sub_self, List.set_cons_zero, List.take_succ_eq_append_getElem hk]
  rw [List.append_assoc, List.singleton_append, List.getD_eq_getElem?_getD, List.getElem?_eq_getElem hk, Option.getD_some]

theorem set_second (hs ts : List Int) (n m k : Nat) (hh : hs.length = m) (hk : k < ts.length) (hn : ts.length = n) : (hs ++ (ts.take k ++ List.replicate (n - k) 0)).set (m + k) (ts.getD k 0) = hs ++ (ts.take (k + 1) ++ List.replicate (n - (k + 1)) 0) := by
  rw [List.set_append_right _ _ (by omega), hh, Nat.add_sub_cancel_left, set_first ts n k hk (by omega)]

theorem head_of_id (hs ts : List Int) (h : hs.length = 20) : (hexText (hs ++ ts)).extract 0 40 ++ ⟨#[46, 116, 111, 114, 114, 101, 110, 116]⟩ = fileName hs := by
  have e1 : (hexText hs).size = 40 := by rw [hexText_size, h]
  have e2 : hexText (hs ++ ts) = hexText hs ++ hexText ts := by
    apply ByteArray.ext
    simp [hexText, Lib.bytesOf, Go.Lib.Hx.encode]
  rw [e2, ByteArray.extract_append_eq_left (by omega)]
  rfl

set_option maxHeartbeats 400000 in
theorem lawB (hs ts : List Int) (w : World) (hx : hs.length = 20) (hy : ts.length = 12) (hrx : ∀ i, i < 20 → 0 ≤ hs.getD i 0 ∧ hs.getD i 0 < 256) (hry : ∀ i, i < 12 → 0 ≤ ts.getD i 0 ∧ ts.getD i 0 < 256) :
    Calls Try.prog 4 #[.agg (cu8 hs), .agg (cu8 ts)] w fun e w' => e = .returned (.bool true) ∧ Below w.heap.size w w' := by
  have HX : Hid (hs.length = 20) := hx
  have HY : Hid (ts.length = 12) := hy
  have HRX : Hid (∀ i, i < 20 → 0 ≤ hs.getD i 0 ∧ hs.getD i 0 < 256) := hrx
  have HRY : Hid (∀ i, i < 12 → 0 ≤ ts.getD i 0 ∧ ts.getD i 0 < 256) := hry
  clear hx hy hrx hry
  go_enter Try.func4, Try.ntmps4
  go_wp2
  go_loopw [6] (fun i wr => ∃ k : Nat, k ≤ 20 ∧ i = .int .i64 k ∧ Hid (St w hs ts wr (hs.take k ++ List.replicate (32 - k) 0))) (fun i _ => 20 - (intOf i).toNat)
  case atStart => exact ⟨0, Nat.zero_le _, rfl, St.start w hs ts⟩
  case round =>
    obtain ⟨k, hk, rfl, hst⟩ := hrel
    by_cases hlt : k < 20
    · have hl : (hs.take k ++ List.replicate (32 - k) (0 : Int)).length = 32 := by simp [HX.out]; omega
      obtain ⟨x, ex⟩ : ∃ x, x = hs.getD k 0 := ⟨_, rfl⟩
      have hc : wr.cell? ⟨w.heap.size, k, none⟩ = some (.int .u8 x) := by rw [ex, cell_of_row _ _ _ _ _ _ hst.out.b0, cu8_at hs k (by rw [HX.out]; exact hlt)]
      obtain ⟨y, hy⟩ : ∃ y : Value, wr.cell? ⟨w.heap.size + 1 + 1, k, none⟩ = some y := ⟨_, by rw [cell_of_row _ _ _ _ _ _ hst.out.b2, cu8_at _ k (by omega)]⟩
      have hf : wr.frozen? ⟨w.heap.size + 1 + 1, k, none⟩ = false := frozen_of_row _ _ _ _ _ hst.out.b2
      have NX : Hid (St w hs ts (wr.setCell ⟨w.heap.size + 1 + 1, k, none⟩ (.int .u8 x)) (hs.take (k + 1) ++ List.replicate (32 - (k + 1)) 0)) := by
        have := hst.out.set k x
        rw [ex, set_first hs 32 k (by rw [HX.out]; exact hlt) (by rw [HX.out]; omega)] at this
        rw [ex]; exact this
      clear hst hl ex
      go_wp2
      go_roundw
      case rel => exact ⟨k + 1, by omega, by go_num, NX⟩
      case measure => simp [intOf]; omega
    · have hk20 : k = 20 := by omega
      subst hk20
      have hst2 : Hid (St w hs ts wr (hs ++ (ts.take 0 ++ List.replicate (12 - 0) 0))) := by
        have h2 := hst.out
        rw [List.take_of_length_le (by rw [HX.out]; omega)] at h2
        show St w hs ts wr _
        simpa using h2
      clear hst hlt hk
      go_wp2
      go_loopw [7] (fun i wr => ∃ k : Nat, k ≤ 12 ∧ i = .int .i64 k ∧ Hid (St w hs ts wr (hs ++ (ts.take k ++ List.replicate (12 - k) 0)))) (fun i _ => 12 - (intOf i).toNat)
      case atStart => exact ⟨0, Nat.zero_le _, rfl, hst2⟩
      case round =>
        obtain ⟨k, hk, rfl, hst⟩ := hrel
        clear hst2
        by_cases hlt : k < 12
        · have hl : (hs ++ (ts.take k ++ List.replicate (12 - k) (0 : Int))).length = 32 := by simp [HX.out, HY.out]; omega
          obtain ⟨x, ex⟩ : ∃ x, x = ts.getD k 0 := ⟨_, rfl⟩
          have hc : wr.cell? ⟨w.heap.size + 1, k, none⟩ = some (.int .u8 x) := by rw [ex, cell_of_row _ _ _ _ _ _ hst.out.b1, cu8_at ts k (by rw [HY.out]; exact hlt)]
          obtain ⟨y, hy⟩ : ∃ y : Value, wr.cell? ⟨w.heap.size + 1 + 1, 20 + k, none⟩ = some y := ⟨_, by rw [cell_of_row _ _ _ _ _ _ hst.out.b2, cu8_at _ (20 + k) (by omega)]⟩
          have hf : wr.frozen? ⟨w.heap.size + 1 + 1, 20 + k, none⟩ = false := frozen_of_row _ _ _ _ _ hst.out.b2
          have NX : Hid (St w hs ts (wr.setCell ⟨w.heap.size + 1 + 1, 20 + k, none⟩ (.int .u8 x)) (hs ++ (ts.take (k + 1) ++ List.replicate (12 - (k + 1)) 0))) := by
            have := hst.out.set (20 + k) x
            rw [ex, set_second hs ts 12 20 k HX.out (by rw [HY.out]; exact hlt) HY.out] at this
            rw [ex]; exact this
          clear hst hl ex
          go_wp2
          go_roundw
          case rel => exact ⟨k + 1, by omega, by go_num, NX⟩
          case measure => simp [intOf]; omega
        · have hk12 : k = 12 := by omega
          subst hk12
          have ST : Hid (St w hs ts wr (hs ++ ts)) := by
            have h2 := hst.out
            rw [List.take_of_length_le (by rw [HY.out]; omega), Nat.sub_self] at h2
            show St w hs ts wr _
            simpa using h2
          clear hst hlt hk
          obtain ⟨id, eid⟩ : ∃ id, id = hs ++ ts := ⟨_, rfl⟩
          have LI : Hid (id.length = 32) := by show _ = _; rw [eid, List.length_append, HX.out, HY.out]
          have HRI : Hid (∀ i, i < 32 → 0 ≤ id.getD i 0 ∧ id.getD i 0 < 256) := by
            intro i hi
            rw [eid]
            by_cases h20 : i < 20
            · have := HRX.out i h20
              rw [List.getD_eq_getElem?_getD, List.getElem?_append_left (by rw [HX.out]; exact h20), ← List.getD_eq_getElem?_getD]; exact this
            · have := HRY.out (i - 20) (by omega)
              rw [List.getD_eq_getElem?_getD, List.getElem?_append_right (by rw [HX.out]; omega), HX.out, ← List.getD_eq_getElem?_getD]; exact this
          obtain ⟨na, hna⟩ : ∃ na, na = fileName hs := ⟨_, rfl⟩
          obtain ⟨sid, hsid⟩ : ∃ sid, sid = hexText id := ⟨_, rfl⟩
          have KX : Hid (∀ w, Calls Try.prog 6 #[.agg (cu8 hs)] w fun e w' => e = .returned (.string na) ∧ Below w.heap.size w w') := fun w => by rw [hna]; exact zzTorrentFile_any hs w HX.out HRX.out
          have KY : Hid (∀ w, Calls Try.prog 10 #[.agg (cu8 id)] w fun e w' => e = .returned (.string sid) ∧ Below w.heap.size w w') := fun w => by rw [hsid]; exact idString id w LI.out HRI.out
          have sx : na.size = 48 := by rw [hna, fileName_size, HX.out]
          have sy : sid.size = 64 := by rw [hsid, hexText_size, LI.out]
          have hpre : sid.extract 0 40 ++ ⟨#[46, 116, 111, 114, 114, 101, 110, 116]⟩ = na := by rw [hsid, hna, eid]; exact head_of_id hs ts HX.out
          have HP : Hid (Spelt sid id 32) := by rw [hsid]; exact spelt_hex id 32 LI.out HRI.out
          rw [← eid] at ST
          clear hna hsid
          have i1 : Hid ((Try.prog.info? 22).map (·.size) = some (cl hs).length) := by show _ = _; rw [cl_length, HX.out]; kernel_rfl
          have i2 : Hid ((Try.prog.info? 30).map (·.size) = some (cl id).length) := by show _ = _; rw [cl_length, LI.out]; kernel_rfl
          have R0 : Hid (wr.rangeAt w.heap.size 0 (cl hs)) := range_of_row ST.out.b0
          have R1 : Hid (wr.rangeAt (w.heap.size + 1 + 1) 0 (cl id)) := range_of_row ST.out.b2
          have S1 : wr.heap.size = w.heap.size + 3 := ST.out.size
          have L1 : Below w.heap.size w wr := ST.out.below
          have HE : Hid (id = hs ++ ts) := eid
          clear ST eid
          go_wp2_with (refine wpList_load_mid rfl 22 _ rfl _ _ rfl (cl hs) _ R0.out Try.underlying22 rfl i1.out ?_)
          refine (KX.out _).mono ?_
          rintro e w1 ⟨rfl, hb1⟩
          have R2 : Hid (w1.rangeAt (w.heap.size + 1 + 1) 0 (cl id)) := range_below hb1 (by omega) R1.out
          have L2 : Below w.heap.size w w1 := L1.trans (hb1.mono (by omega))
          have S2 : w.heap.size + 3 ≤ w1.heap.size := by have := hb1.size; omega
          clear hb1 R0 R1 S1 L1
          go_wp2_with (refine wpList_load_mid rfl 30 _ rfl _ _ rfl (cl id) _ R2.out Try.underlying30 rfl i2.out ?_)
          refine (KY.out _).mono ?_
          rintro e w2 ⟨rfl, hb2⟩
          have R3 : Hid (w2.rangeAt (w.heap.size + 1 + 1) 0 (cl id)) := range_below hb2 (by omega) R2.out
          have L3 : Below w.heap.size w w2 := L2.trans (hb2.mono (by omega))
          have S3 : w.heap.size + 3 ≤ w2.heap.size := by have := hb2.size; omega
          clear hb2 R2 S2 L2
          go_wp2_with (first
            | (refine wpList_load_mid rfl 30 _ rfl _ _ rfl (cl id) _ R3.out Try.underlying30 rfl i2.out ?_)
            | (go_at_call 11; refine (spells32 _ id _ sy LI.out HP.out).mono ?_; rintro e w4 ⟨rfl, hb4⟩))
          go_ret
          exact ⟨rfl, L3.trans (hb4.mono (by omega))⟩
end Go.Proofs.Qxb6616454a

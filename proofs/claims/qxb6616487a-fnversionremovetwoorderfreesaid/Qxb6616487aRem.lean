import Derived.Test.Qxb6616487aCut
namespace Go.Proofs.Qxb6616487a
open Go.RowKit

set_option maxRecDepth 20000 in
set_option maxHeartbeats 1000000 in
theorem remove_any {w : World} {L bV capV : Nat} {bs : List Blk} {ts : Int} {b i : Nat} (h : VSt w L bV capV bs) (hl : Lies bs ts b i) :
    Calls Try.prog 41 #[.pointer (some ⟨L, 0, none⟩), .int .i64 ts] w fun e w' => e = .returned (.tuple #[]) ∧ VSt w' L bV capV (rem bs b i) ∧ Kept (own L bV bs) w w' := by
  have H : Hid (VSt w L bV capV bs) := h
  have HL : Hid (Lies bs ts b i) := hl
  have hb : b < bs.length := hl.hb
  have hi : i < lenB bs b := hl.hi
  clear h hl
  go_enter Try.func41, Try.ntmps41
  go_wp2_with fail
  refine (find_any H.out HL.out).mono ?_
  rintro e w1 ⟨rfl, hb1⟩
  have H1 : Hid (VSt w1 L bV capV bs) := H.out.below hb1
  have hL1 : w1.cell? ⟨L, 0, none⟩ = some (.slice (some ⟨bV, 0, none⟩) bs.length capV) := H1.out.list.cell (by omega)
  have hn := H1.out.cap
  have ho1 := H1.out.outc hb
  have hl1 := H1.out.len hb
  have hr1 := (H1.out.rows b hb).1
  obtain ⟨n, en⟩ : ∃ n, n = bs.length := ⟨_, rfl⟩
  obtain ⟨m, em⟩ : ∃ m, m = lenB bs b := ⟨_, rfl⟩
  obtain ⟨c, ec⟩ : ∃ c, c = (blk bs b).c := ⟨_, rfl⟩
  obtain ⟨cap, ecap⟩ : ∃ cap, cap = (blk bs b).cap := ⟨_, rfl⟩
  have HR1 : Hid (w1.rowIs c 93 (2 * cap) (blkCell (blk bs b).vs)) := by rw [ec, ecap]; exact hr1
  rw [← en] at hL1 hn hb
  rw [← em] at hl1 hi ho1
  rw [← ecap] at hl1 ho1
  rw [← ec] at ho1
  have hcL : L ≠ c := by rw [ec]; exact fun q => (H1.out.far.2 b (by rw [← en]; exact hb)).1 q.symm
  have hcV : bV ≠ c := by rw [ec]; exact fun q => (H1.out.far.2 b (by rw [← en]; exact hb)).2 q.symm
  have hLV : L ≠ bV := H1.out.far.1
  have EN : Hid (n = bs.length) := en
  have EM : Hid (m = lenB bs b) := em
  have EC : Hid (c = (blk bs b).c) := ec
  have ECAP : Hid (cap = (blk bs b).cap) := ecap
  have OC : Hid (w1.cell? ⟨bV, b, none⟩ = some (.slice (some ⟨c, 0, none⟩) m cap)) := ho1
  clear en em ec ecap hr1 ho1
  go_wp2_with fail
  refine wp_region_held (S := fun wz => wz.cell? ⟨L, 0, none⟩ = some (.slice (some ⟨bV, 0, none⟩) n capV)) (by kernel_rfl) ?_
  change wpAnyH _ _ _ _ _ _ _ _ (World.drew _)
  refine wpAnyH_take (i := 0) (v := .pointer (some ⟨L, 0, none⟩)) rfl (by kernel_rfl) (by kernel_rfl) (by kernel_rfl) (fun _ _ _ h => h) (.inl ⟨by rfl, fun wz hS => by simp only [] at hS; go_simp⟩) hL1 ?_
  refine wpAnyH_take (i := 1) (v := .pointer (some ⟨L, 0, none⟩)) rfl (by kernel_rfl) (by kernel_rfl) (by kernel_rfl) (fun _ _ _ h => h) (.inl ⟨by rfl, fun wz hS => by simp only [] at hS; go_simp⟩) hL1 ?_
  refine wpAnyH_take (i := 2) (v := .pointer (some ⟨L, 0, none⟩)) rfl (by kernel_rfl) (by kernel_rfl) (by kernel_rfl) (fun _ _ _ h => h) (.inl ⟨by rfl, fun wz hS => by simp only [] at hS; go_simp⟩) hL1 ?_
  refine wpAnyH_take (i := 3) (v := .slice (some ⟨bV, 0, none⟩) n capV) rfl (by kernel_rfl) (by kernel_rfl) (by kernel_rfl) (fun _ _ _ h => h) (.inl ⟨by rfl, fun wz hS => by simp only [] at hS; go_simp⟩) hL1 ?_
  refine wpAnyH_take (i := 4) (v := .int .i64 b) rfl (by kernel_rfl) (by kernel_rfl) (by kernel_rfl) (fun _ _ _ h => h) (.inl ⟨by rfl, fun wz hS => by simp only [] at hS; go_simp⟩) hL1 ?_
  refine wpAnyH_take (i := 5) (v := .pointer (some ⟨L, 0, none⟩)) rfl (by kernel_rfl) (by kernel_rfl) (by kernel_rfl) (fun _ _ _ h => h) (.inl ⟨by rfl, fun wz hS => by simp only [] at hS; go_simp⟩) hL1 ?_
  refine wpAnyH_take (i := 6) (v := .pointer (some ⟨L, 0, none⟩)) rfl (by kernel_rfl) (by kernel_rfl) (by kernel_rfl) (fun _ _ _ h => h) (.inl ⟨by rfl, fun wz hS => by simp only [] at hS; go_simp⟩) hL1 ?_
  refine wpAnyH_take (i := 7) (v := .pointer (some ⟨L, 0, none⟩)) rfl (by kernel_rfl) (by kernel_rfl) (by kernel_rfl) (fun _ _ _ h => h) (.inl ⟨by rfl, fun wz hS => by simp only [] at hS; go_simp⟩) hL1 ?_
  refine wpAnyH_take (i := 8) (v := .slice (some ⟨bV, 0, none⟩) n capV) rfl (by kernel_rfl) (by kernel_rfl) (by kernel_rfl) (fun _ _ _ h => h) (.inl ⟨by rfl, fun wz hS => by simp only [] at hS; go_simp⟩) hL1 ?_
  refine wpAnyH_take (i := 9) (v := .int .i64 b) rfl (by kernel_rfl) (by kernel_rfl) (by kernel_rfl) (fun _ _ _ h => h) (.inl ⟨by rfl, fun wz hS => by simp only [] at hS; go_simp⟩) hL1 ?_
  refine wpAnyH_take (i := 10) (v := .pointer (some ⟨bV, b, none⟩)) rfl (by kernel_rfl) (by kernel_rfl) (by kernel_rfl) (fun _ _ _ h => h) (.inl ⟨by rfl, fun wz hS => by simp only [] at hS; go_simp⟩) hL1 ?_
  refine wpAnyH_take (i := 12) (v := .int .i64 i) rfl (by kernel_rfl) (by kernel_rfl) (by kernel_rfl) (fun _ _ _ h => h) (.inl ⟨by rfl, fun wz hS => by simp only [] at hS; go_simp⟩) hL1 ?_
  refine wpAnyH_take (i := 13) (v := .int .i64 i) rfl (by kernel_rfl) (by kernel_rfl) (by kernel_rfl) (fun _ _ _ h => h) (.inl ⟨by rfl, fun wz hS => by simp only [] at hS; go_simp⟩) hL1 ?_
  refine wpAnyH_take (i := 14) (v := .int .i64 ((i : Int) + 1)) rfl (by kernel_rfl) (by kernel_rfl) (by kernel_rfl) (fun _ _ _ h => h) (.inl ⟨by rfl, fun wz hS => by simp only [] at hS; go_simp; go_bits; trivial⟩) hL1 ?_
  refine wpAnyH_all (rs := [11]) (by kernel_rfl) (by simp) ?_
  intro z hz
  obtain rfl : z = 11 := by simpa using hz
  clear hz
  refine wpOp_step rfl (fun K hK => ?_)
  have ho1 := OC.out
  go_simp
  refine hK _ _ ⟨hL1, ?_⟩
  clear hK K ho1
  refine wpAnyH_all (rs := [15]) (by kernel_rfl) (by simp) ?_
  intro z hz
  obtain rfl : z = 15 := by simpa using hz
  clear hz
  refine wpOp_step rfl (fun K hK => ?_)
  go_simp
  have LM := (show m = (blk bs b).vs.length from EM.out)
  rw [LM]
  refine (del2_any w1.drew c cap i (blk bs b).vs HR1.out (by rw [← LM]; exact hi) (by rw [← LM]; omega) (by omega)).mono ?_
  rw [← LM]
  rintro e w2 ⟨rfl, hr2, hg2⟩
  clear LM
  have hL2 : w2.cell? ⟨L, 0, none⟩ = some (.slice (some ⟨bV, 0, none⟩) n capV) := by rw [World.cell?_of_block (w := w1.drew) (hg2.block L (block_lt_of_cell hL1) (fun q => hcL (by cases q; rfl)))]; exact hL1
  refine hK _ _ ⟨hL2, ?_⟩
  clear hK K
  refine wpAnyH_take (i := 16) (v := .pointer (some ⟨bV, b, none⟩)) rfl (by kernel_rfl) (by kernel_rfl) (by kernel_rfl) (fun _ _ _ h => h) (.inl ⟨by rfl, fun wz hS => by simp only [] at hS; go_simp⟩) hL2 ?_
  refine wpAnyH_all (rs := [17]) (by kernel_rfl) (by simp) ?_
  intro z hz
  obtain rfl : z = 17 := by simpa using hz
  clear hz
  refine wpOp_step rfl (fun K hK => ?_)
  have OR2 : Hid (w2.rowIs bV 91 capV (outCell bs)) := H1.out.out.of_block (hg2.block bV H1.out.out.lt (fun q => hcV (by cases q; rfl)))
  obtain ⟨x2, hx2⟩ : ∃ x, w2.cell? ⟨bV, b, none⟩ = some x := ⟨_, OR2.out.cell (by omega)⟩
  have hf2 : w2.frozen? ⟨bV, b, none⟩ = false := OR2.out.frozen b
  go_simp
  have hL3 : (w2.setCell ⟨bV, b, none⟩ (.slice (some ⟨c, 0, none⟩) (m - 1) cap)).cell? ⟨L, 0, none⟩ = some (.slice (some ⟨bV, 0, none⟩) n capV) := by
    rw [World.cell?_of_block (w := w2) (heap_setCell_other _ _ _ _ hLV)]; exact hL2
  refine hK _ _ ⟨hL3, ?_⟩
  clear hK K
  refine wpAnyH_done (by kernel_rfl) ?_ _
  have OR3 : Hid ((w2.setCell ⟨bV, b, none⟩ (.slice (some ⟨c, 0, none⟩) (m - 1) cap)).rowIs bV 91 capV (fun j => if j = b then .slice (some ⟨c, 0, none⟩) (m - 1) cap else outCell bs j)) := OR2.out.set b _
  have R3 : Hid ((w2.setCell ⟨bV, b, none⟩ (.slice (some ⟨c, 0, none⟩) (m - 1) cap)).rowIs c 93 (2 * cap) (blkCell ((blk bs b).vs.eraseIdx i))) := hr2.setOther (fun q => hcV q.symm) _
  have K3 : Hid (∀ g, g < w1.heap.size → g ≠ c → g ≠ bV → (w2.setCell ⟨bV, b, none⟩ (.slice (some ⟨c, 0, none⟩) (m - 1) cap)).heap[g]? = w1.heap[g]?) := fun g hg h1 h2 => by
    rw [heap_setCell_other _ _ _ _ h2]
    exact hg2.block g hg (fun q => h1 (by cases q; rfl))
  have Q3 : Hid (Kept (own L bV bs) w (w2.setCell ⟨bV, b, none⟩ (.slice (some ⟨c, 0, none⟩) (m - 1) cap))) :=
    (((Kept.of_below hb1).trans Kept.drew).trans (Kept.of_grown hg2 (.inr (.inr ⟨b, by rw [← EN.out]; exact hb, EC.out⟩)))).set (.inr (.inl rfl)) _
  have S3 : w1.heap.size ≤ (w2.setCell ⟨bV, b, none⟩ (.slice (some ⟨c, 0, none⟩) (m - 1) cap)).heap.size := by have := hg2.size; simpa using this
  obtain ⟨w3, e3⟩ : ∃ w3, w3 = w2.setCell ⟨bV, b, none⟩ (.slice (some ⟨c, 0, none⟩) (m - 1) cap) := ⟨_, rfl⟩
  rw [← e3] at OR3 R3 K3 Q3 hL3 S3 ⊢
  clear e3 hL2 hx2 hf2 OR2 hr2 hg2
  have hb' : b < bs.length := by rw [← EN.out]; exact hb
  have CU := H1.out.cut (w' := w3) (b := b) (i := i) hb' (by rw [← EM.out]; exact hi) (by rw [← EC.out]; exact K3.out) (by rw [← EC.out, ← ECAP.out]; exact R3.out) (by rw [← EC.out, ← ECAP.out, ← EM.out]; exact OR3.out)
  have ho3 : w3.cell? ⟨bV, b, none⟩ = some (.slice (some ⟨c, 0, none⟩) (m - 1) cap) := by rw [OR3.out.cell (by omega), if_pos rfl]
  have HCU : Hid (_ ∧ _ ∧ _) := CU
  have HB : Hid (b < bs.length) := hb'
  clear CU hb'
  by_cases hone : m = 1
  · subst hone
    obtain ⟨X, hX⟩ : ∃ X : Blk, X = ⟨(blk bs b).c, (blk bs b).cap, (blk bs b).vs.eraseIdx i⟩ := ⟨_, rfl⟩
    have R4 : Hid (w3.rowIs bV 91 capV (outCell (bs.set b X))) := by rw [hX]; exact HCU.out.2.1
    have LS : Hid ((bs.set b X).length = n) := by show _ = _; rw [List.length_set, EN.out]
    have LR : Hid (w3.rowIs L 97 1 (fun _ => .slice (some ⟨bV, 0, none⟩) bs.length capV)) := HCU.out.1
    clear HCU hX
    go_wp2_with fail
    have D := del1_any w3 bV capV b (bs.set b X) R4.out (by rw [LS.out]; exact hb) (by rw [LS.out]; omega) (by omega)
    rw [LS.out, List.eraseIdx_set_eq] at D
    refine D.mono ?_
    rintro e w4 ⟨rfl, hr4, hg4⟩
    clear D
    have LR4 : Hid (w4.rowIs L 97 1 (fun _ => .slice (some ⟨bV, 0, none⟩) bs.length capV)) := LR.out.of_block (hg4.block L LR.out.lt (fun q => hLV (by cases q; rfl)))
    have hL4 := LR4.out.cell (i := 0) (by omega)
    have hf4 : w4.frozen? ⟨L, 0, none⟩ = false := LR4.out.frozen 0
    go_wp2
    go_end0
    have KD : ∀ g, g < w1.heap.size → g ≠ c → g ≠ bV → g ≠ L → (w4.setCell ⟨L, 0, none⟩ (.slice (some ⟨bV, 0, none⟩) (n - 1) capV)).heap[g]? = w1.heap[g]? := fun g hg h1 h2 h3 => by
      rw [heap_setCell_other _ _ _ _ h3, hg4.block g (by omega) (fun q => h2 (by cases q; rfl))]
      exact K3.out g hg h1 h2
    refine ⟨rfl, ?_, (Q3.out.trans (Kept.of_grown hg4 (.inr (.inl rfl)))).set (.inl rfl) _⟩
    unfold rem
    rw [if_pos EM.out.symm]
    refine H1.out.drop HB.out (by rw [← EC.out]; exact KD) ?_ (hr4.setOther (fun q => hLV q.symm) _)
    refine (LR4.out.set 0 _).congr (fun j hj => ?_)
    rw [if_pos (by omega), ← EN.out]
  · have hm1 : (((m - 1 : Nat) : Int) == 0) = false := by simp; omega
    go_wp2
    go_end0
    refine ⟨rfl, ?_, Q3.out⟩
    unfold rem
    rw [if_neg (by rw [← EM.out]; exact hone)]
    exact HCU.out.2.2 (by rw [← EM.out]; omega)
end Go.Proofs.Qxb6616487a

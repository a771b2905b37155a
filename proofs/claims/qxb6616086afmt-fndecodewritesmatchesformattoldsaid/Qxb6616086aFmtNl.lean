import Derived.Test.Qxb6616086aFmtZd
/-! A NIL PAYLOAD. -/
namespace Go.Proofs.Qxb6616086aFmt
open Go.RowKit Go.Maps

set_option maxHeartbeats 1000000 in
set_option maxRecDepth 100000 in
theorem model_nil (w : World) : Calls Tryf.prog 7 #[.slice none 0 0] w fun e w' => e = .returned (.tuple #[.slice none 0 0, .bool false]) ∧ w' = w := by
  go_enter Tryf.func7, Tryf.ntmps7
  go_wp2
  refine wp_loop_rounds 1 ?_
  rw [rounds_succ]
  go_wp2
  go_ret2
  exact ⟨rfl, rfl⟩

theorem gotWrites_nil {w w' : World} (hb : Below w.heap.size w w') : GotWrites (.returned (.tuple #[.agg #[.slice none 0 0, .map none], .nilIface])) w w' [] :=
  ⟨_, _, [], _, false, rfl, TabsIs.nil _ _ _ _ _, hb, ends_nil, .inl ⟨rfl, rfl⟩, by simp, fun i => by simp [tabAt, mtab0], rfl⟩

set_option maxHeartbeats 2000000 in
theorem decode_nil (w : World) : Calls Tryf.prog 16 #[.slice none 0 0] w fun e w' => GotWrites e w w' [] := by
  have H : Hid (∀ w', Below w.heap.size w w' → GotWrites (.returned (.tuple #[.agg #[.slice none 0 0, .map none], .nilIface])) w w' []) := fun _ hb => gotWrites_nil hb
  go_enter Tryf.func16, Tryf.ntmps16
  go_wp2
  refine wp_loop_rounds 1 ?_
  rw [rounds_succ]
  go_wp2
  go_region
  go_wp2
  (try simp only [Exit.inBlock, Exit.then])
  refine bodyPost_ret (v := .tuple #[.agg #[.slice none 0 0, .map none], .nilIface]) ?_ rfl (H.out _ ?_)
  · refine ret_of (tb := w.heap.size) (load31 ?_ ?_) rfl rfl
    · go_simp
    · go_simp
  · exact ((((Below.refl _ w).alloc (Nat.le_refl _) _).alloc (by simp) _).alloc (by simp; omega) _).drew

set_option maxHeartbeats 1000000 in
theorem zzdw_nil (w : World) : Calls Tryf.prog 8 #[.slice none 0 0] w fun e w' => GotWrites e w w' [] := by
  obtain ⟨W0, eW⟩ : ∃ W0, W0 = w.alloc (.cells #[.slice none 0 0, .map none] 31) := ⟨_, rfl⟩
  have hb0 : Below w.heap.size w W0 := by rw [eW]; exact (Below.refl _ w).alloc (Nat.le_refl _) _
  have ht0 : W0.rowIs w.heap.size 31 2 (wsF (.slice none 0 0) (.map none)) := by
    rw [eW]
    exact World.rowIs_alloc w #[.slice none 0 0, .map none] 31 _ (fun i hi => by
      have hi' : i < 2 := hi
      rcases (by omega : i = 0 ∨ i = 1) with rfl | rfl <;> rfl)
  have K := decode_nil W0
  have HB0 : Hid (Below w.heap.size w W0) := hb0
  have HT0 : Hid (W0.rowIs w.heap.size 31 2 (wsF (.slice none 0 0) (.map none))) := ht0
  clear hb0 ht0
  go_enter Tryf.func8, Tryf.ntmps8
  go_wp2_with fail
  rw [← eW]
  refine K.mono ?_
  rintro e' w1 ⟨tv, xv, ts, ev, bad, rfl, h1, h2, h3, h4, h5, h6, h7⟩
  have hto : tv.oneCell' = true := by rcases h1.row with ⟨rfl, _⟩ | ⟨g, cap, rfl, _⟩ <;> rfl
  have HO := out8 (tb := w.heap.size) rfl HB0.out HT0.out h1 h2 h3 h4 h5 h6 h7
  have HG : Hid (GotWrites (.returned (.tuple #[.agg #[tv, xv], ev])) w ((w1.setCell ⟨w.heap.size, 0, none⟩ tv).setCell ⟨w.heap.size, 1, none⟩ xv) []) := HO.1
  have HL : Hid ((loadVar 31 ⟨w.heap.size, 0, none⟩).run Tryf.prog ((w1.setCell ⟨w.heap.size, 0, none⟩ tv).setCell ⟨w.heap.size, 1, none⟩ xv) = .ok (.agg #[tv, xv]) ((w1.setCell ⟨w.heap.size, 0, none⟩ tv).setCell ⟨w.heap.size, 1, none⟩ xv)) := HO.2
  have ht := HT0.out.of_block (h2.block w.heap.size HT0.out.lt)
  obtain ⟨tb, etb⟩ : ∃ tb, tb = w.heap.size := ⟨_, rfl⟩
  rw [← etb] at ht HG HL
  have ct0 : w1.cell? ⟨tb, 0, none⟩ = some (.slice none 0 0) := ht.cell (i := 0) (by decide)
  have ct1 : w1.cell? ⟨tb, 1, none⟩ = some (.map none) := ht.cell (i := 1) (by decide)
  have ft0 : w1.frozen? ⟨tb, 0, none⟩ = false := ht.frozen 0
  have ft1 : w1.frozen? ⟨tb, 1, none⟩ = false := ht.frozen 1
  have st0 : ∀ (x : World) (a : Addr), (store a tv).run Tryf.prog x = stored Tryf.prog x a tv .plain := fun x a => run_store _ x a tv _ hto
  have st1 : ∀ (x : World) (a : Addr), (store a xv).run Tryf.prog x = stored Tryf.prog x a xv .plain := fun x a => run_store _ x a xv _ h7
  rw [← etb]
  clear HO K h1 h2 h3 h4 h5 h6 ht etb eW HT0 HB0
  go_wp2
  (try simp only [Exit.inBlock, Exit.then])
  refine bodyPost_ret (v := .tuple #[.agg #[tv, xv], ev]) ?_ rfl HG.out
  exact ret_of8 HL.out rfl rfl
end Go.Proofs.Qxb6616086aFmt

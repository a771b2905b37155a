import Derived.Test.Qxb6616086aFmtDw
/-! THE WALK of ZZdecodeWrites, and both decoders over a nil payload. -/
namespace Go.Proofs.Qxb6616086aFmt
open Go.RowKit Go.Maps Go.Stop Go.Extern.Stop Go.Extern

theorem ret_of8 {tmps : Array Value} {x : World} {tb : Nat} {v ev : Value} (h : (loadVar 31 ⟨tb, 0, none⟩).run Tryf.prog x = .ok v x) (h2 : tmps.getD 2 undef = .pointer (some ⟨tb, 0, none⟩)) (h3 : tmps.getD 3 undef = ev) : (results Tryf.f8 tmps).run Tryf.prog x = .ok (.tuple #[v, ev]) x := by
  rw [results_cell_tmp rfl, h2, h3]
  simp [asAddr, h]

/-- The result's block is written last. -/
theorem out8 {w W0 w1 : World} {tb : Nat} {b : List UInt8} {tv xv ev : Value} {ts : List MTab} {bad : Bool} (htb : tb = w.heap.size) (hb0 : Below w.heap.size w W0) (ht0 : W0.rowIs tb 31 2 (wsF (.slice none 0 0) (.map none)))
    (ht : TabsIs w1 W0.heap.size 54 4 58 tv ts) (hb : Below W0.heap.size W0 w1) (he : Ends b (plain ts) bad) (hev : (ev = .nilIface ∧ bad = false) ∨ ((∃ t v, ev = .iface t v) ∧ bad = true)) (hl : ts.length ≤ 65536) (hc : ∀ i, (tabAt ts i).cs.length ≤ 65536) (hxo : xv.oneCell' = true) :
    GotWrites (.returned (.tuple #[.agg #[tv, xv], ev])) w ((w1.setCell ⟨tb, 0, none⟩ tv).setCell ⟨tb, 1, none⟩ xv) b ∧
    (loadVar 31 ⟨tb, 0, none⟩).run Tryf.prog ((w1.setCell ⟨tb, 0, none⟩ tv).setCell ⟨tb, 1, none⟩ xv) = .ok (.agg #[tv, xv]) ((w1.setCell ⟨tb, 0, none⟩ tv).setCell ⟨tb, 1, none⟩ xv) := by
  have htr := ht0.of_block (hb.block tb ht0.lt)
  have h1 := htr.set 0 tv
  have h2 := h1.set 1 xv
  obtain ⟨c1, hc1, _⟩ := htr
  obtain ⟨c2, hc2, _⟩ := h1
  have ht' : TabsIs ((w1.setCell ⟨tb, 0, none⟩ tv).setCell ⟨tb, 1, none⟩ xv) W0.heap.size 54 4 58 tv ts :=
    (ht.kept (TKeep.set hc1 (by decide) (by decide) (fun q => absurd q (by decide)) 0 _)).kept (TKeep.set hc2 (by decide) (by decide) (fun q => absurd q (by decide)) 1 _)
  refine ⟨⟨tv, xv, ts, ev, bad, rfl, ht'.mono hb0.size, ?_, he, hev, hl, hc, hxo⟩, load31 ?_ ?_⟩
  · exact ((hb0.trans (hb.mono hb0.size)).setCell (p := ⟨tb, 0, none⟩) (by show _ ≤ tb; omega) _).setCell (p := ⟨tb, 1, none⟩) (by show _ ≤ tb; omega) _
  · have := h2.cell (i := 0) (by decide)
    simpa using this
  · have := h2.cell (i := 1) (by decide)
    simpa using this


set_option maxHeartbeats 1000000 in
theorem zzdw_any (F : Interp) (pb : Nat) (b : List UInt8) (w : World) (hF : F.answers w.tape) (hN : b.length ≤ 65536) (hpay : BytesAt w pb b) :
    Calls Tryf.prog 8 #[.slice (some ⟨pb, 0, none⟩) b.length b.length] w fun e w' => GotWrites e w w' b := by
  obtain ⟨W0, eW⟩ : ∃ W0, W0 = w.alloc (.cells #[.slice none 0 0, .map none] 31) := ⟨_, rfl⟩
  have hb0 : Below w.heap.size w W0 := by rw [eW]; exact (Below.refl _ w).alloc (Nat.le_refl _) _
  have ht0 : W0.rowIs w.heap.size 31 2 (wsF (.slice none 0 0) (.map none)) := by
    rw [eW]
    exact World.rowIs_alloc w #[.slice none 0 0, .map none] 31 _ (fun i hi => by
      have hi' : i < 2 := hi
      rcases (by omega : i = 0 ∨ i = 1) with rfl | rfl <;> rfl)
  have hp0 : BytesAt W0 pb b := by rw [eW]; exact World.rowIs.alloc hpay _
  have K := decode_any F pb b W0 (by rw [hb0.tape]; exact hF) hN hp0
  have HB0 : Hid (Below w.heap.size w W0) := hb0
  have HT0 : Hid (W0.rowIs w.heap.size 31 2 (wsF (.slice none 0 0) (.map none))) := ht0
  clear hp0 hpay hF hb0 ht0
  go_enter Tryf.func8, Tryf.ntmps8
  go_wp2_with fail
  rw [← eW]
  refine K.mono ?_
  rintro e' w1 ⟨tv, xv, ts, ev, bad, rfl, h1, h2, h3, h4, h5, h6, h7⟩
  have hto : tv.oneCell' = true := by rcases h1.row with ⟨rfl, _⟩ | ⟨g, cap, rfl, _⟩ <;> rfl
  have HO := out8 (tb := w.heap.size) rfl HB0.out HT0.out h1 h2 h3 h4 h5 h6 h7
  have HG : Hid (GotWrites (.returned (.tuple #[.agg #[tv, xv], ev])) w ((w1.setCell ⟨w.heap.size, 0, none⟩ tv).setCell ⟨w.heap.size, 1, none⟩ xv) b) := HO.1
  have HL : Hid ((loadVar 31 ⟨w.heap.size, 0, none⟩).run Tryf.prog ((w1.setCell ⟨w.heap.size, 0, none⟩ tv).setCell ⟨w.heap.size, 1, none⟩ xv) = .ok (.agg #[tv, xv]) ((w1.setCell ⟨w.heap.size, 0, none⟩ tv).setCell ⟨w.heap.size, 1, none⟩ xv)) := HO.2
  have ht := HT0.out.of_block (h2.block w.heap.size HT0.out.lt)
  obtain ⟨tb, etb⟩ : ∃ tb, tb = w.heap.size := ⟨_, rfl⟩
  rw [← etb] at ht HG HL
  have ct0 : w1.cell? ⟨tb, 0, none⟩ = some (.slice none 0 0) := ht.cell (i := 0) (by decide)
  have ct1 : w1.cell? ⟨tb, 1, none⟩ = some (.map none) := ht.cell (i := 1) (by decide)
  have ft0 : w1.frozen? ⟨tb, 0, none⟩ = false := ht.frozen 0
  have ft1 : w1.frozen? ⟨tb, 1, none⟩ = false := ht.frozen 1
  have st0 : ∀ (x : World) (a : Addr), (store a tv).run Tryf.prog x = stored Tryf.prog x a tv .plain := fun x a => run_store _ x a tv _ hto
  have st1 : ∀ (x : World) (a : Addr), (store a xv).run Tryf.prog x = stored Tryf.prog x a xv .plain := fun x a => run_store _ x a xv _ h7
  rw [← etb]
  clear HO K h1 h2 h3 h4 h5 h6 ht etb eW HT0 HB0
  go_wp2
  (try simp only [Exit.inBlock, Exit.then])
  refine bodyPost_ret (v := .tuple #[.agg #[tv, xv], ev]) ?_ rfl HG.out
  exact ret_of8 HL.out rfl rfl

/-! ### A nil payload -/
theorem ends_nil : Ends [] [] false := (Reach.start []).out rfl |>.ends rfl
end Go.Proofs.Qxb6616086aFmt

import Derived.Test.Qxb6616086aFmtZs
/-! THE WALK of ZZtables. -/
namespace Go.Proofs.Qxb6616086aFmt
open Go.RowKit Go.Maps

theorem val_shape {w : World} {B : Nat} {c : MChg} (h : ValIs w B c) : ∃ ao l cp, c.vv = .slice ao l cp := by
  unfold ValIs at h
  split at h
  · exact ⟨none, 0, 0, h⟩
  · obtain ⟨_, g, cap, cs, h1, _⟩ := h
    exact ⟨_, _, _, h1⟩

theorem chg_cells {w : World} {g3 m cp q i : Nat} {cs : List MChg} (hr : Rows w 58 3 chgZ (chgCell cs) (.slice (some ⟨g3, 0, none⟩) m cp) m) (hq : q < m) (hi : i < 3) : w.cell? ⟨g3, q * 3 + i, none⟩ = some (chgF (chgAt cs q) i) := by
  rcases hr with ⟨e, _⟩ | ⟨g', cap', e, hc, _, hrow⟩
  · cases e
  · simp only [Value.slice.injEq, Option.some.injEq, Addr.mk.injEq] at e
    obtain ⟨⟨rfl, _⟩, _, rfl⟩ := e
    rw [hrow.cell (by omega), if_pos (by omega)]
    unfold chgCell
    rw [show (q * 3 + i) / 3 = q by omega, show (q * 3 + i) % 3 = i by omega]

def GotOut (B : Nat) (e : Ending) (w w' : World) (ts : List MTab) : Prop := ∃ ov ts2, e = .returned ov ∧ TabsIs w' B 42 3 51 ov ts2 ∧ plain ts2 = plain ts ∧ Below w.heap.size w w'

set_option maxHeartbeats 4000000 in
set_option maxRecDepth 100000 in
theorem tables_some (B g cap : Nat) (xv : Value) (ts : List MTab) (w : World) (hB : B ≤ w.heap.size) (hl : ts.length ≤ 65536) (hcl : ∀ i, (tabAt ts i).cs.length ≤ 65536) (h : TabsIs w B 54 4 58 (.slice (some ⟨g, 0, none⟩) ts.length cap) ts) :
    Calls Tryf.prog 9 #[.agg #[.slice (some ⟨g, 0, none⟩) ts.length cap, xv]] w fun e w' => GotOut B e w w' ts := by
  obtain ⟨n, en⟩ : ∃ n, n = ts.length := ⟨_, rfl⟩
  rw [← en] at h hl ⊢
  have HN : Hid (n = ts.length) := en
  clear en
  obtain ⟨W0, eW⟩ : ∃ W0, W0 = w.alloc (.cells #[.slice (some ⟨g, 0, none⟩) n cap, xv] 31) := ⟨_, rfl⟩
  have hb0 : Below w.heap.size w W0 := by rw [eW]; exact (Below.refl _ w).alloc (Nat.le_refl _) _
  have HS : Hid (TabsIs W0 B 54 4 58 (.slice (some ⟨g, 0, none⟩) n cap) ts) := h.of_below hb0
  have HX : Hid (W0.cell? ⟨w.heap.size, 0, none⟩ = some (.slice (some ⟨g, 0, none⟩) n cap)) := by show W0.cell? _ = _; rw [eW]; exact new_cell w #[.slice (some ⟨g, 0, none⟩) n cap, xv] 31 0
  have HB : Hid (Below w.heap.size w W0) := hb0
  have HBB : Hid (B ≤ W0.heap.size) := Nat.le_trans hB hb0.size
  have HCL : Hid (∀ i, (tabAt ts i).cs.length ≤ 65536) := hcl
  clear h hb0 hB hcl
  go_enter Tryf.func9, Tryf.ntmps9
  go_wp2
  rw [← eW]
  clear eW
  obtain ⟨bx, ebx⟩ : ∃ bx, bx = w.heap.size := ⟨_, rfl⟩
  rw [← ebx] at HX ⊢
  clear ebx
  go_loopw [3, 11] (fun o i wr => ∃ (k : Nat) (ts2 : List MTab), i = .int .i64 k ∧ k ≤ n ∧ Hid (OutW W0 wr B o ts ts2 k)) (fun _ i _ => n - (intOf i).toNat)
  case atStart => exact ⟨0, [], rfl, Nat.zero_le _, ⟨Below.refl _ _, TabsIs.nil _ _ _ _ _, by simp [plain], Nat.zero_le _, fun k hk => by simp [Value.ownBlock] at hk⟩⟩
  case round =>
    obtain ⟨k, ts2, rfl, hk, HO⟩ := hrel
    by_cases hlt : k < n
    · have hkt : k < ts.length := by rw [← HN.out]; exact hlt
      have hSr := HS.out.of_below HO.out.below
      have cx : wr.cell? ⟨bx, 0, none⟩ = some (.slice (some ⟨g, 0, none⟩) n cap) := laterCell HO.out.below HX.out
      obtain ⟨tb, etb⟩ : ∃ tb, tb = tabAt ts k := ⟨_, rfl⟩
      have HTB : Hid (tb = tabAt ts k) := etb
      have cn : wr.cell? ⟨g, k * 4, none⟩ = some (.string ⟨tb.name.toArray⟩) := by rw [etb]; exact (hSr.cell rfl hkt (k := 0) (by decide)).1
      have cd : wr.cell? ⟨g, k * 4 + 1, none⟩ = some (.bool tb.drop) := by rw [etb]; exact (hSr.cell rfl hkt (k := 1) (by decide)).1
      have cc : wr.cell? ⟨g, k * 4 + 2, none⟩ = some tb.cv := by rw [etb]; exact (hSr.cell rfl hkt (k := 2) (by decide)).1
      have hrw : Rows wr 58 3 chgZ (chgCell tb.cs) tb.cv tb.cs.length := by rw [etb]; exact hSr.chg k hkt
      have HV : Hid (∀ j, j < tb.cs.length → ValIs wr B (chgAt tb.cs j)) := by rw [etb]; exact hSr.val k hkt
      have hm6 : tb.cs.length ≤ 65536 := by rw [etb]; exact HCL.out k
      clear etb
      obtain ⟨ao, cp, ecv⟩ : ∃ ao cp, tb.cv = .slice ao tb.cs.length cp := by
        rcases hrw with ⟨q, q2⟩ | ⟨g3, cap3, q, _⟩
        · exact ⟨none, 0, by rw [q, q2]⟩
        · exact ⟨_, _, q⟩
      rw [ecv] at cc hrw
      have HRW : Hid (Rows wr 58 3 chgZ (chgCell tb.cs) (.slice ao tb.cs.length cp) tb.cs.length) := hrw
      clear ecv hrw
      obtain ⟨nm, enm⟩ : ∃ nm, nm = tb.name := ⟨_, rfl⟩
      obtain ⟨d, ed⟩ : ∃ d, d = tb.drop := ⟨_, rfl⟩
      obtain ⟨cs, ecs⟩ : ∃ cs, cs = tb.cs := ⟨_, rfl⟩
      have HEQ : Hid (nm = tb.name ∧ d = tb.drop ∧ cs = tb.cs) := ⟨enm, ed, ecs⟩
      rw [← enm] at cn
      rw [← ed] at cd
      rw [← ecs] at cc HRW HV hm6
      clear enm ed ecs
      obtain ⟨m, em⟩ : ∃ m, m = cs.length := ⟨_, rfl⟩
      rw [← em] at cc HRW HV hm6
      have HM : Hid (m = cs.length) := em
      clear em
      have i0 : (0 : Int) ≤ (k : Int) := by omega
      have i1 : (k : Int) < (n : Int) := by omega
      have n0 := World.new_ne wr _ cx
      have n1 := World.new_ne wr _ cn
      have n2 := World.new_ne wr _ cd
      go_wp2
      go_region_held3 (fun x => x.cell? ⟨bx, 0, none⟩ = some (.slice (some ⟨g, 0, none⟩) n cap) ∧ x.cell? ⟨g, k * 4, none⟩ = some (.string ⟨nm.toArray⟩) ∧ x.cell? ⟨g, k * 4 + 1, none⟩ = some (.bool d)) (go_keep) (fail)
      obtain ⟨wi0, ew⟩ : ∃ wi0, wi0 = (wr.alloc (.cells #[.string ⟨nm.toArray⟩, .bool d, .slice none 0 0] 42)).drew := ⟨_, rfl⟩
      rw [← ew]
      have hbw : Below wr.heap.size wr wi0 := by rw [ew]; exact ((Below.refl _ wr).alloc (Nat.le_refl _) _).drew
      have HTW : Hid (TabW wr wi0 wr.heap.size nm d cs 0 (.slice none 0 0)) := by
        refine TabW.start wr nm d cs wi0 hbw _ (Nat.le_refl _) ?_
        rw [ew]
        exact World.rowIs_alloc wr #[.string ⟨nm.toArray⟩, .bool d, .slice none 0 0] 42 _ (fun i hi => by
          have hi' : i < 3 := hi
          rcases (by omega : i = 0 ∨ i = 1 ∨ i = 2) with rfl | rfl | rfl <;> rfl)
      have HCX : Hid (wr.cell? ⟨bx, 0, none⟩ = some (.slice (some ⟨g, 0, none⟩) n cap) ∧ wr.cell? ⟨g, k * 4 + 2, none⟩ = some (.slice ao m cp)) := ⟨cx, cc⟩
      have cx' := laterCell hbw cx
      have cc' := laterCell hbw cc
      obtain ⟨tbk, etk⟩ : ∃ tbk, tbk = wr.heap.size := ⟨_, rfl⟩
      rw [← etk] at HTW ⊢
      clear n0 n1 n2 cx cn cd cc ew hbw etk hSr
      obtain ⟨wo, ewo⟩ : ∃ wo, wo = wr := ⟨wr, rfl⟩
      subst ewo
      go_wp2
      clear cx' cc'
      go_loopw [34] (fun j wi => ∃ (q : Nat) (cvT : Value), j = .int .i64 q ∧ q ≤ m ∧ Hid (TabW wo wi tbk nm d cs q cvT)) (fun j _ => m - (intOf j).toNat)
      case atStart => exact ⟨0, _, rfl, Nat.zero_le _, HTW⟩
      case round =>
        clear HTW
        obtain ⟨q, cvT, rfl, hq, HT⟩ := hrel
        by_cases hql : q < m
        · have hqc : q < cs.length := by rw [← HM.out]; exact hql
          obtain ⟨g3, cap3, eao, _⟩ := HRW.out.at (by omega)
          simp only [Value.slice.injEq] at eao
          obtain ⟨rfl, _, rfl⟩ := eao
          obtain ⟨c, ec⟩ : ∃ c, c = chgAt cs q := ⟨_, rfl⟩
          obtain ⟨a2, l2, c2, evv⟩ : ∃ a2 l2 c2, c.vv = .slice a2 l2 c2 := by rw [ec]; exact val_shape (HV.out q hql)
          have k0 : wr.cell? ⟨g3, q * 3, none⟩ = some (.string ⟨c.key.toArray⟩) := by rw [ec]; exact laterCell HT.out.below (chg_cells HRW.out hql (i := 0) (by decide))
          have k1 : wr.cell? ⟨g3, q * 3 + 1, none⟩ = some (.slice a2 l2 c2) := by rw [← evv, ec]; exact laterCell HT.out.below (chg_cells HRW.out hql (i := 1) (by decide))
          have k2 : wr.cell? ⟨g3, q * 3 + 2, none⟩ = some (.bool c.del) := by rw [ec]; exact laterCell HT.out.below (chg_cells HRW.out hql (i := 2) (by decide))
          have cx := laterCell HT.out.below HCX.out.1
          have cc := laterCell HT.out.below HCX.out.2
          have ct : wr.cell? ⟨tbk, 2, none⟩ = some cvT := HT.out.row.cell (i := 2) (by decide)
          have n3 : (wr.alloc (.cells #[.string ⟨c.key.toArray⟩, .slice a2 l2 c2, .bool c.del] 58)).cell? ⟨tbk, 2, none⟩ = some cvT := laterCell ((Below.refl _ wr).alloc (Nat.le_refl _) _) ct
          have HEC : Hid (c = chgAt cs q) := ec
          have HVV : Hid (c.vv = .slice a2 l2 c2) := evv
          have hb1 : ∀ o1 o2, Below wr.heap.size wr ((wr.alloc o1).alloc o2) := fun o1 o2 => ((Below.refl _ wr).alloc (Nat.le_refl _) _).alloc (by simp) _
          clear ec evv
          go_wp2_with (at_builtin; refine wpList_append_rows rfl (.tmp 47) (.tmp 57) 40 rfl 51 3 chgZ kept51 (by decide) Tryf.underlying40 cvT q (chgCell (cs.take q)) rfl ?rr ⟨wr.heap.size + 1, 0, none⟩ 1 rfl (chgF c) ?cc ?co (by omega) ?_)
          case rr => exact HT.out.rows.kept fun k hk => (hb1 _ _).block k (HT.out.rows.lt hk).1
          case cc =>
            have hz : (wr.alloc (.cells #[.string ⟨c.key.toArray⟩, .slice a2 l2 c2, .bool c.del] 58)).heap.size = wr.heap.size + 1 := by simp
            have := new_chg (wr.alloc (.cells #[.string ⟨c.key.toArray⟩, .slice a2 l2 c2, .bool c.del] 58)) c 51
            rw [hz, HVV.out] at this
            exact this
          case co => exact chg_one (by rw [HVV.out]; rfl)
          intro cv' w2 hg
          obtain ⟨g5, cap5, rfl, _⟩ := hg.rows.at (by omega)
          rw [HEC.out] at hg
          have hnx := HT.out.next hqc (hb1 _ _) hg
          have HN' : Hid (TabW wo (w2.setCell ⟨tbk, 2, none⟩ (.slice (some ⟨g5, 0, none⟩) (q + 1) cap5)) tbk nm d cs (q + 1) (.slice (some ⟨g5, 0, none⟩) (q + 1) cap5)) := hnx.2
          have ct2 := hnx.1.1
          have ft2 := hnx.1.2
          clear hnx hg n3 k0 k1 k2 cx cc ct HT HV HEC HVV
          go_wp2
          go_roundw
          case rel => exact ⟨q + 1, _, by go_num, by omega, HN'⟩
          case measure => simp [intOf]; omega
        · obtain rfl : q = m := by omega
          have hrow := HT.out.row
          have k0 : wr.cell? ⟨tbk, 0, none⟩ = some (.string ⟨nm.toArray⟩) := hrow.cell (i := 0) (by decide)
          have k1 : wr.cell? ⟨tbk, 1, none⟩ = some (.bool d) := hrow.cell (i := 1) (by decide)
          have k2 : wr.cell? ⟨tbk, 2, none⟩ = some cvT := hrow.cell (i := 2) (by decide)
          have hb1 : ∀ o1, Below wr.heap.size wr (wr.alloc o1) := fun o1 => (Below.refl _ wr).alloc (Nat.le_refl _) _
          have hcv1 : cvT.oneCell' = true := by rcases HT.out.rows with ⟨e, _⟩ | ⟨g3, cap3, e, _⟩ <;> rw [e] <;> rfl
          clear hrow
          go_wp2_with (at_builtin; refine wpList_append_rows rfl (.tmp 61) (.tmp 63) 25 rfl 42 3 tabZ kept42 (by decide) Tryf.underlying25 u3 ts2.length (tabCell 3 ts2) rfl ?rr ⟨wr.heap.size, 0, none⟩ 1 rfl (tabF ⟨nm, d, cvT, cs⟩) ?cc ?co ?hn ?_)
          case rr => exact (HO.out.tabs.of_below (HT.out.below.trans ((hb1 _).mono HT.out.below.size))).row
          case cc => exact fun k hk => (new_cell wr _ 42 k).trans (by rcases (by omega : k = 0 ∨ k = 1 ∨ k = 2) with rfl | rfl | rfl <;> rfl)
          case co =>
            intro k hk
            rcases (by omega : k = 0 ∨ k = 1 ∨ k = 2) with rfl | rfl | rfl
            · rfl
            · rfl
            · exact hcv1
          case hn => rw [HO.out.len]; omega
          intro ov' w2 hg
          have HO' : Hid (OutW W0 w2 B ov' ts (ts2 ++ [⟨nm, d, cvT, cs⟩]) (k + 1)) := by
            obtain ⟨e1, e2, e3⟩ := HEQ.out
            have e0 := HTB.out
            subst e1 e2 e3 e0
            have hT := HT.out
            rw [HM.out] at hT
            exact HO.out.next hkt HS.out HBB.out hT (hb1 _) hg
          clear hg HT HO HV k0 k1 k2
          go_wp2
          go_roundw
          case rel => exact ⟨k + 1, _, by go_num, by omega, HO'⟩
          case measure => simp [intOf]; omega
    · have e : k = ts.length := by rw [← HN.out]; omega
      have HG : Hid (GotOut B (.returned u3) w wr ts) := ⟨u3, ts2, rfl, HO.out.tabs, by have := HO.out.pl; rw [e, List.take_length] at this; exact this, HB.out.trans (HO.out.below.mono HB.out.size)⟩
      clear HO e
      go_wp2
      go_ret
      exact HG.out

set_option maxHeartbeats 1000000 in
theorem tables_nil (xv : Value) (w : World) : Calls Tryf.prog 9 #[.agg #[.slice none 0 0, xv]] w fun e w' => e = .returned (.slice none 0 0) ∧ w' = w.alloc (.cells #[.slice none 0 0, xv] 31) := by
  go_enter Tryf.func9, Tryf.ntmps9
  go_wp2
  refine wp_loop_rounds 1 ?_
  rw [rounds_succ]
  go_wp2
  go_ret
  exact ⟨rfl, rfl⟩

theorem tables_any (B : Nat) (tv xv : Value) (ts : List MTab) (w : World) (hB : B ≤ w.heap.size) (hl : ts.length ≤ 65536) (hcl : ∀ i, (tabAt ts i).cs.length ≤ 65536) (h : TabsIs w B 54 4 58 tv ts) :
    Calls Tryf.prog 9 #[.agg #[tv, xv]] w fun e w' => GotOut B e w w' ts := by
  rcases h.row with ⟨rfl, h0⟩ | ⟨g, cap, rfl, _⟩
  · obtain rfl : ts = [] := List.eq_nil_of_length_eq_zero h0
    refine (tables_nil xv w).mono ?_
    rintro e w' ⟨rfl, rfl⟩
    exact ⟨_, [], rfl, TabsIs.nil _ _ _ _ _, rfl, (Below.refl _ w).alloc (Nat.le_refl _) _⟩
  · exact tables_some B g cap xv ts w hB hl hcl h
end Go.Proofs.Qxb6616086aFmt

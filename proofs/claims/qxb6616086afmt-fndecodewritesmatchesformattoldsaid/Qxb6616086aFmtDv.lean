import Derived.Test.Qxb6616086aFmtDu
import Derived.Laws.ResultCell
import Derived.Deep.RegionLaw
/-! decodeWrites: its errors, its clones, its end. -/
namespace Go.Proofs.Qxb6616086aFmt
open Go.RowKit Go.Maps Go.Stop Go.Extern.Stop Go.Extern

theorem conv_nil : ∀ (w : World), (convert 22 9 (.slice none 0 0)).run Tryf.prog w = .ok (.string ⟨#[]⟩) w := fun w => by kernel_rfl

section
variable {w wr w1 : World} {rb wb pb : Nat} {b : List UInt8} {tv xv : Value} {ts : List MTab} {p : Nat}

theorem RdBad.later (h : RdBad wr rb pb b) (hb : Below wr.heap.size wr w1) : RdBad w1 rb pb b := by
  obtain ⟨p, t, v, h⟩ := h
  exact ⟨p, t, v, h.of_below hb⟩

/-- fmt.Errorf("an entry of unknown kind %d", y). -/
theorem dwErr {F : Interp} (hF : F.answers w.tape) (h : Fr w wr rb wb pb b tv xv ts) (y : Int) (T : TypeId) :
    Calls Tryf.prog 25 #[.string Tryf.fmtKind, .slice (some ⟨wr.heap.size, 0, none⟩) 1 1] (wr.alloc (.cells #[.iface 5 (.int .u8 y)] T)) fun e w3 => ∃ t v, e = .returned (.iface t v) ∧ Below wr.heap.size wr w3 := by
  refine (errorf_kind F y wr.heap.size (wr.alloc (.cells #[.iface 5 (.int .u8 y)] T)) (h.tape hF) (new_cell wr #[.iface 5 (.int .u8 y)] T 0)).mono ?_
  rintro e w3 ⟨t, v, rfl, hb⟩
  exact ⟨t, v, rfl, ((Below.refl _ wr).alloc (Nat.le_refl _) _).trans (hb.mono (by simp))⟩

theorem dwFail_bad (h : Fr w wr rb wb pb b tv xv ts) (hr : RdBad wr rb pb b) (ev : Value) :
    Calls Tryf.prog 24 #[.pointer (some ⟨rb, 0, none⟩), ev] wr fun e w1 => e = .returned (.tuple #[]) ∧ Fr w w1 rb wb pb b tv xv ts ∧ RdBad w1 rb pb b := by
  have hr' := hr
  obtain ⟨p, t, v, hrd⟩ := hr
  obtain ⟨A, _, c0, c1, _⟩ := hrd.cells
  refine (fail_kept rb ev t v wr c1).mono ?_
  rintro e w1 ⟨rfl, rfl⟩
  exact ⟨rfl, h, hr'⟩
theorem dwFail_ok (h : Fr w wr rb wb pb b tv xv ts) (hr : Rd wr rb pb b p .nilIface) (t : TypeId) (v : Value) :
    Calls Tryf.prog 24 #[.pointer (some ⟨rb, 0, none⟩), .iface t v] wr fun e w1 => e = .returned (.tuple #[]) ∧ Fr w w1 rb wb pb b tv xv ts ∧ RdBad w1 rb pb b := by
  obtain ⟨A, _, c0, c1, f0, f1⟩ := hr.cells
  refine (fail_set rb t v wr c1 f1).mono ?_
  rintro e w1 ⟨rfl, rfl⟩
  have hb := hr.err (.iface t v)
  exact ⟨rfl, h.turn (turn_set _ _ _ _) hb.blk, ⟨p, t, v, hb⟩⟩

/-- bytes.Clone of a field. -/
theorem dwClone {A : Addr} {C : Nat} {l k : List UInt8} (h : Fr w wr rb wb pb b tv xv ts) (hr : Rd wr rb pb b p .nilIface) (hl : l.length ≤ 65536) (hc : ∀ i, i < l.length → wr.cell? (A.add i) = some (byteV (l.getD i 0))) {n : Nat} (en : n = l.length) :
    Calls Tryf.prog 23 #[.slice (some A) n C] wr fun e w1 => ∃ g cap, e = .returned (.slice (some ⟨g, 0, none⟩) n cap) ∧ Fr w w1 rb wb pb b tv xv ts ∧ Rd w1 rb pb b p .nilIface ∧ ValIs w1 w.heap.size ⟨k, .slice (some ⟨g, 0, none⟩) n cap, some l, false⟩ := by
  subst en
  refine (Tryf.bytes_Clone_at A l.length C (l.map fun c => (c.toNat : Int)) wr (by simp) (by omega) (fun i hi => ?_)).mono ?_
  · rw [hc i hi]
    simp [byteV, List.getD_eq_getElem?_getD, List.getElem?_eq_getElem hi]
  · rintro e w1 ⟨v', rfl, how, hne, hb⟩
    rcases how.2 with ⟨q, _⟩ | ⟨g, cap, cur, rfl, hg, hcur, hcap, _, hsz, htk⟩
    · exact absurd q hne
    · refine ⟨g, cap, rfl, h.later hb, hr.of_below hb, hl, g, cap, cur, rfl, Nat.le_trans h.below.size hg, hcur, fun i hi => ?_⟩
      have hi2 : i < l.length * 1 := by omega
      have h1 : (cur.toList.take (l.length * 1))[i]? = cur.toList[i]? := by rw [List.getElem?_take, if_pos hi2]
      rw [htk] at h1
      have h2 : cur[i]? = cur.toList[i]? := by simp
      rw [h2, ← h1]
      simp [byteV, List.getD_eq_getElem?_getD, List.getElem?_eq_getElem hi]
end

theorem set2_cell {wr : World} {tb rb o : Nat} {x y : Value} (h : rb ≠ tb) : ((wr.setCell ⟨tb, 0, none⟩ x).setCell ⟨tb, 1, none⟩ y).cell? ⟨rb, o, none⟩ = wr.cell? ⟨rb, o, none⟩ :=
  (World.cell?_of_block (heap_setCell_other _ _ _ _ h)).trans (World.cell?_of_block (heap_setCell_other _ _ _ _ h))

theorem load31 {x : World} {tb : Nat} {tv xv : Value} (h0 : x.cell? ⟨tb, 0, none⟩ = some tv) (h1 : x.cell? ⟨tb, 1, none⟩ = some xv) : (loadVar 31 ⟨tb, 0, none⟩).run Tryf.prog x = .ok (.agg #[tv, xv]) x := by
  go_simp

theorem ret_of {tmps : Array Value} {x : World} {tb : Nat} {v ev : Value} (h : (loadVar 31 ⟨tb, 0, none⟩).run Tryf.prog x = .ok v x) (h2 : tmps.getD 2 undef = .pointer (some ⟨tb, 0, none⟩)) (h3 : tmps.getD 3 undef = ev) : (results Tryf.f16 tmps).run Tryf.prog x = .ok (.tuple #[v, ev]) x := by
  rw [results_cell_tmp rfl, h2, h3]
  simp [asAddr, h]

/-- The result's block is written last. -/
theorem out_of {w W0 wr : World} {rb wb pb tb : Nat} {b : List UInt8} {tv xv : Value} {ts : List MTab} (h : Fr W0 wr rb wb pb b tv xv ts) (hlt : tb < W0.heap.size) (htb : tb = w.heap.size) (hb0 : Below w.heap.size w W0) (ht0 : W0.rowIs tb 31 2 (wsF (.slice none 0 0) (.map none))) :
    TabsIs ((wr.setCell ⟨tb, 0, none⟩ tv).setCell ⟨tb, 1, none⟩ xv).drew w.heap.size 54 4 58 tv ts ∧ Below w.heap.size w ((wr.setCell ⟨tb, 0, none⟩ tv).setCell ⟨tb, 1, none⟩ xv).drew ∧ ts.length ≤ 65536 ∧ (∀ i, (tabAt ts i).cs.length ≤ 65536) ∧
    (loadVar 31 ⟨tb, 0, none⟩).run Tryf.prog ((wr.setCell ⟨tb, 0, none⟩ tv).setCell ⟨tb, 1, none⟩ xv).drew = .ok (.agg #[tv, xv]) ((wr.setCell ⟨tb, 0, none⟩ tv).setCell ⟨tb, 1, none⟩ xv).drew := by
  have htr := ht0.of_block (h.below.block tb hlt)
  have h1 := htr.set 0 tv
  have h2 := h1.set 1 xv
  have hN := h.nN
  obtain ⟨c1, hc1, _⟩ := htr
  obtain ⟨c2, hc2, _⟩ := h1
  have ht : TabsIs ((wr.setCell ⟨tb, 0, none⟩ tv).setCell ⟨tb, 1, none⟩ xv) W0.heap.size 54 4 58 tv ts :=
    (h.ws.tabs.kept (TKeep.set hc1 (by decide) (by decide) (fun q => absurd q (by decide)) 0 _)).kept (TKeep.set hc2 (by decide) (by decide) (fun q => absurd q (by decide)) 1 _)
  refine ⟨(ht.mono hb0.size).of_below (Below.refl _ _).drew, ?_, Nat.le_trans h.len hN, fun i => Nat.le_trans (h.clen i) hN, load31 (x := ((wr.setCell ⟨tb, 0, none⟩ tv).setCell ⟨tb, 1, none⟩ xv).drew) ?_ ?_⟩
  · exact (((hb0.trans (h.below.mono hb0.size)).setCell (p := ⟨tb, 0, none⟩) (by show _ ≤ tb; omega) _).setCell (p := ⟨tb, 1, none⟩) (by show _ ≤ tb; omega) _).drew
  · have := h2.cell (i := 0) (by decide)
    simpa using this
  · have := h2.cell (i := 1) (by decide)
    simpa using this

theorem WsIs.one {w : World} {B wb : Nat} {tv xv : Value} {ts : List MTab} (h : WsIs w B wb tv xv ts) : tv.oneCell' = true ∧ xv.oneCell' = true := by
  constructor
  · rcases h.tabs.row with ⟨rfl, _⟩ | ⟨g, cap, rfl, _⟩ <;> rfl
  · rcases h.ix with ⟨rfl, _⟩ | ⟨mb, D, rfl, _⟩ <;> rfl


theorem step_append_rows {ops : Array Oper} {o : Oper} {a : Act} {w : World} {K' : Act → World → Prop} {Q : Exit → Act → World → Prop} {E : Prop} (hgd : o.guard = none) (sl x : Operand) (t : TypeId)
    (ho : o.op = .call { callee := .builtin .append, args := #[sl, x], argTypes := #[t, t] }) (e s : Nat) (z : Nat → Value) (hk : Kept e s z) (hs0 : 0 < s) (ht : Tryf.prog.underlying t = some (.slice e))
    (v : Value) (n : Nat) (f : Nat → Value) (hv : a.eval sl = v) (hr : Rows w e s z f v n) (ad : Addr) (c : Nat) (hx : a.eval x = .slice (some ad) 1 c) (g1 : Nat → Value) (hc : ∀ k, k < s → w.cell? (ad.add k) = some (g1 k)) (h1 : ∀ k, k < s → (g1 k).oneCell' = true)
    (hn : n ≤ 1000000) (h : ∀ v' w', Grew w w' e s z f g1 v v' n → K' (a.put o.dst v') w') : if Region.wanted o (yielded ops a.tmps) = true then Oper.wp Tryf.prog o a w K' Q else E := by
  have hw : Region.wanted o (yielded ops a.tmps) = true := by simp [Region.wanted, hgd]
  rw [if_pos hw]
  obtain ⟨i, zv, hi, hz, hsz, hby, hzs, hzf⟩ := hk
  have hb : (n + 1) * i.bytes ≤ 140737488355328 := by
    have h1 : (n + 1) * i.bytes ≤ 1000001 * 1000 := Nat.mul_le_mul (by omega) hby
    omega
  obtain ⟨v', w', hrun, r1, r2, r3, r4⟩ := run_append_rows (P := Tryf.prog) w t o.type e i zv s i.bytes ht hi hz hsz rfl hzs hs0 z hzf v n f hr ad c g1 hc h1 (by unfold maxLen; omega) hb
  unfold Oper.wp
  simp [execOp, ho, resolve, invoke, builtin, hv, hx, hrun, Result.andThen]
  exact h v' w' ⟨r1, r2, r3, r4⟩

theorem new_chg (w : World) (c : MChg) (T : TypeId) : ∀ k, k < 3 → (w.alloc (.cells #[strV c.key, c.vv, .bool c.del] T)).cell? ((⟨w.heap.size, 0, none⟩ : Addr).add k) = some (chgF c k) := fun k hk =>
  (new_cell w _ T k).trans (by rcases (by omega : k = 0 ∨ k = 1 ∨ k = 2) with rfl | rfl | rfl <;> rfl)
theorem chg_one {c : MChg} (hv : c.vv.oneCell' = true) : ∀ k, k < 3 → (chgF c k).oneCell' = true := fun k hk => by
  rcases (by omega : k = 0 ∨ k = 1 ∨ k = 2) with rfl | rfl | rfl
  · rfl
  · exact hv
  · rfl

section
variable {w w1 : World} {rb wb pb : Nat} {b : List UInt8} {xv cv : Value} {ts : List MTab} {g n cap t : Nat}
theorem Fr.chgCell (h : Fr w w1 rb wb pb b (.slice (some ⟨g, 0, none⟩) n cap) xv ts) (ht : t < ts.length) (hcv : cv = (tabAt ts t).cv) : w1.cell? ⟨g, t * 4 + 2, none⟩ = some cv ∧ w1.frozen? ⟨g, t * 4 + 2, none⟩ = false := by
  rw [hcv]
  exact h.ws.tabs.cell rfl ht (k := 2) (by decide)
theorem Fr.chgRows (h : Fr w w1 rb wb pb b (.slice (some ⟨g, 0, none⟩) n cap) xv ts) (ht : t < ts.length) (hcv : cv = (tabAt ts t).cv) (o : Obj) : Rows (w1.alloc o) 58 3 chgZ (Qxb6616086aFmt.chgCell (tabAt ts t).cs) cv (tabAt ts t).cs.length := by
  rw [hcv]
  exact (h.later ((Below.refl _ _).alloc (Nat.le_refl _) _)).ws.tabs.chg t ht
end

/-- A call of a Go function, as one step of a region that draws. -/
theorem step_call20 {ops : Array Oper} {o : Oper} {a : Act} {w : World} {K' : Act → World → Prop} {Q : Exit → Act → World → Prop} {E : Prop} (hgd : o.guard = none) (x : Operand) (t : TypeId)
    (ho : o.op = .call { callee := .value (.func 20), args := #[x], argTypes := #[t] }) (v : Value) (hv : a.eval x = v) (h : Calls Tryf.prog 20 #[v] w fun e w' => ∃ u, e = .returned u ∧ K' (a.put o.dst u) w') :
    if Region.wanted o (yielded ops a.tmps) = true then Oper.wp Tryf.prog o a w K' Q else E := by
  have hw : Region.wanted o (yielded ops a.tmps) = true := by simp [Region.wanted, hgd]
  rw [if_pos hw]
  have key : ∀ ev : Operand → Value, ev (.func 20) = .func (.func 20) #[] #[] → ev x = v → (execOp ev o).run Tryf.prog w = .ok (.enter 20 #[v]) w := by
    intro ev h1 h2
    simp only [execOp, ho]
    go_simp
  unfold Oper.wp
  rw [key a.eval rfl hv]
  simp only [Oper.upon]
  refine h.mono ?_
  rintro e w' ⟨u, rfl, hK⟩
  exact hK

/-- A call of a Go function, as one step of a region that draws. -/
theorem step_call23 {ops : Array Oper} {o : Oper} {a : Act} {w : World} {K' : Act → World → Prop} {Q : Exit → Act → World → Prop} {E : Prop} (hgd : o.guard = none) (x : Operand) (t : TypeId)
    (ho : o.op = .call { callee := .value (.func 23), args := #[x], argTypes := #[t] }) (v : Value) (hv : a.eval x = v) (h : Calls Tryf.prog 23 #[v] w fun e w' => ∃ u, e = .returned u ∧ K' (a.put o.dst u) w') :
    if Region.wanted o (yielded ops a.tmps) = true then Oper.wp Tryf.prog o a w K' Q else E := by
  have hw : Region.wanted o (yielded ops a.tmps) = true := by simp [Region.wanted, hgd]
  rw [if_pos hw]
  have key : ∀ ev : Operand → Value, ev (.func 23) = .func (.func 23) #[] #[] → ev x = v → (execOp ev o).run Tryf.prog w = .ok (.enter 23 #[v]) w := by
    intro ev h1 h2
    simp only [execOp, ho]
    go_simp
  unfold Oper.wp
  rw [key a.eval rfl hv]
  simp only [Oper.upon]
  refine h.mono ?_
  rintro e w' ⟨u, rfl, hK⟩
  exact hK
end Go.Proofs.Qxb6616086aFmt

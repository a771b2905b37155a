import Derived.Test.Qxb6616086aFmtTb
/-! THE WRITE SET: table. -/
namespace Go.Proofs.Qxb6616086aFmt
open Go.RowKit Go.Maps

def GotTable (e : Ending) (w w' : World) (B wb : Nat) (ts : List MTab) (name : List UInt8) : Prop :=
  ∃ g n cap xv' ts', e = .returned (.pointer (some ⟨g, atT (plain ts) name * 4, none⟩)) ∧ WsIs w' B wb (.slice (some ⟨g, 0, none⟩) n cap) xv' ts' ∧ n = ts'.length ∧ plain ts' = addT (plain ts) name ∧ atT (plain ts) name < ts'.length ∧ Below B w w' ∧ Keep63 w w'

section
variable {w w' : World} {B wb : Nat} {tv xv : Value} {ts : List MTab} {name : List UInt8}

theorem WsIs.of_below (h : WsIs w B wb tv xv ts) (hb : Below w.heap.size w w') : WsIs w' B wb tv xv ts :=
  ⟨h.row.of_block (hb.block wb h.row.lt), h.lo, h.tabs.of_below hb, h.uniq, h.nlen, h.ix.of_below hb⟩

theorem gotTable_old {g n cap i : Nat} (h : WsIs w' B wb (.slice (some ⟨g, 0, none⟩) n cap) xv ts) (hn : n = ts.length) (hb : Below B w w') (hk : Keep63 w w') (hf : findT (plain ts) name = some i) :
    GotTable (.returned (.pointer (some ⟨g, i * 4, none⟩))) w w' B wb ts name := by
  have e1 : atT (plain ts) name = i := by unfold atT; rw [hf]
  have hi := findT_len hf
  rw [plain_length] at hi
  refine ⟨g, n, cap, xv, ts, by rw [e1], h, hn, ?_, by omega, hb, hk⟩
  unfold addT
  rw [hf]

theorem nlen_snoc (hl : ∀ i, (tabAt ts i).name.length ≤ 65536) (hn : name.length ≤ 65536) : ∀ i, (tabAt (ts ++ [newTab name]) i).name.length ≤ 65536 := fun i => by
  rw [tabAt_snoc]
  split
  · exact hn
  · exact hl i

/-- A table has been laid behind the others: what the index's call leaves. -/
theorem added {w1 W2 : World} {g n cap : Nat} (hB : B ≤ w1.heap.size) (h : WsIs w1 B wb tv xv ts) (hbw : Below B w w1) (hkw : Keep63 w w1) (hn : ts.length < 1000000) (en : n = ts.length) (hl : name.length ≤ 65536) (hf : findT (plain ts) name = none)
    (ht : TabsIs W2 B 54 4 58 (.slice (some ⟨g, 0, none⟩) (n + 1) cap) (ts ++ [newTab name])) (hr : W2.rowIs wb 31 2 (wsF (.slice (some ⟨g, 0, none⟩) (n + 1) cap) xv)) (hx : IxIs W2 B xv ts) (hb : Below B w1 W2) (hk : Keep63 w1 W2) :
    Calls Tryf.prog 28 #[.pointer (some ⟨wb, 1, none⟩), .slice (some ⟨g, 0, none⟩) (n + 1) cap, .func (.func 27) #[] #[]] W2.drew fun e w' => e = .returned (.tuple #[]) ∧
      w'.cell? ⟨wb, 0, none⟩ = some (.slice (some ⟨g, 0, none⟩) (n + 1) cap) ∧ GotTable (.returned (.pointer (some ⟨g, n * 4, none⟩))) w w' B wb ts name := by
  have hd : Below W2.heap.size W2 W2.drew := (Below.refl _ _).drew
  have K := indexLast_any B wb g cap (n + 1) xv ts (newTab name) W2.drew (Nat.le_trans hB hb.size) h.lo hn (by omega) hr (ht.of_below hd) h.uniq (nlen_snoc h.nlen hl) (hx.of_below hd) hf
  refine K.mono ?_
  rintro e w' ⟨rfl, xv', h1, h2, h3, h4, h5⟩
  have e1 : atT (plain ts) name = n := by unfold atT; rw [hf, en]; exact plain_length ts
  refine ⟨rfl, h1.cell (i := 0) (by decide), g, n + 1, cap, xv', ts ++ [newTab name], by rw [e1], ⟨h1, h.lo, h2, uniq_snoc h.uniq hf, nlen_snoc h.nlen hl, h3⟩, by rw [en]; simp, ?_, by rw [e1, en]; simp, (hbw.trans hb).trans (((Below.refl B W2).drew).trans h4), (hkw.trans hk).trans ((Keep63.of_below hd).trans h5)⟩
  rw [plain_snoc]
  unfold addT
  rw [hf]
  rfl

/-- A table in room that is there already. -/
theorem TabsIs.reslice {g cap : Nat} (h : TabsIs w B 54 4 58 (.slice (some ⟨g, 0, none⟩) ts.length cap) ts) (hB : B ≤ w.heap.size) (hc : ts.length < cap) (name : List UInt8) :
    TabsIs (w.setCell ⟨g, ts.length * 4, none⟩ (strV name)) B 54 4 58 (.slice (some ⟨g, 0, none⟩) (ts.length + 1) cap) (ts ++ [newTab name]) := by
  refine h.addTab (by decide) (by decide) (by decide) (newTab name) rfl rfl ?_ (turn_set _ _ _ _) (.inl ⟨rfl, by simp [Value.ownBlock]⟩) hB
  rcases h.row with ⟨q, _⟩ | ⟨g', cap', e, h1, h2, hrow⟩
  · cases q
  · simp only [Value.slice.injEq, Option.some.injEq, Addr.mk.injEq] at e
    obtain ⟨⟨rfl, _⟩, _, rfl⟩ := e
    refine .inr ⟨g, cap, rfl, hc, h2, (hrow.set (ts.length * 4) (strV name)).congr fun i hi => ?_⟩
    unfold behind
    by_cases q1 : i < ts.length * 4
    · rw [if_neg (by omega), if_pos q1, if_pos (by omega), if_pos q1]
    · by_cases q2 : i < (ts.length + 1) * 4
      · rw [if_pos q2, if_neg q1, if_neg q1]
        obtain ⟨k, ek⟩ : ∃ k, i = ts.length * 4 + k := ⟨i - ts.length * 4, by omega⟩
        have hk : k < 4 := by omega
        rw [show i - ts.length * 4 = k by omega, show i % 4 = k by omega]
        rcases (by omega : k = 0 ∨ k = 1 ∨ k = 2 ∨ k = 3) with rfl | rfl | rfl | rfl
        · rw [if_pos (by omega)]; rfl
        · rw [if_neg (by omega)]; rfl
        · rw [if_neg (by omega)]; rfl
        · rw [if_neg (by omega)]; rfl
      · rw [if_neg (by omega), if_neg q1, if_neg q2]

theorem IxIs.set (h : IxIs w B xv ts) {b : Nat} {c : Array Value} {t : TypeId} {fr : Nat × Nat} (hc : w.heap[b]? = some (.cells c t fr)) (o : Nat) (v : Value) : IxIs (w.setCell ⟨b, o, none⟩ v) B xv ts := by
  rcases h with h | ⟨mb, D, h1, h2, h3, h4, h5⟩
  · exact .inl h
  · exact .inr ⟨mb, D, h1, h2, h3, h4.kept (turn_set _ _ _ _) (map_ne h4 hc).symm, h5⟩
theorem Keep63.set {b : Nat} {c : Array Value} {t : TypeId} {fr : Nat × Nat} (hc : w.heap[b]? = some (.cells c t fr)) (ht : t ≠ 63) (o : Nat) (v : Value) : Keep63 w (w.setCell ⟨b, o, none⟩ v) := fun b' c' hc' => by
  refine heap_setCell_other _ _ _ _ fun e => ?_
  have e' : b' = b := e
  subst e'
  rw [hc] at hc'
  simp only [Option.some.injEq, Obj.cells.injEq] at hc'
  exact ht hc'.2.1

theorem added_reslice {w1 : World} {g n cap : Nat} (hB : B ≤ w1.heap.size) (h : WsIs w1 B wb (.slice (some ⟨g, 0, none⟩) n cap) xv ts) (hbw : Below B w w1) (hkw : Keep63 w w1) (hn : ts.length < 1000000) (en : n = ts.length) (hl : name.length ≤ 65536) (hf : findT (plain ts) name = none) (hc : n < cap) :
    Calls Tryf.prog 28 #[.pointer (some ⟨wb, 1, none⟩), .slice (some ⟨g, 0, none⟩) (n + 1) cap, .func (.func 27) #[] #[]] ((w1.setCell ⟨wb, 0, none⟩ (.slice (some ⟨g, 0, none⟩) (n + 1) cap)).setCell ⟨g, n * 4, none⟩ (strV name)).drew fun e w' => e = .returned (.tuple #[]) ∧
      w'.cell? ⟨wb, 0, none⟩ = some (.slice (some ⟨g, 0, none⟩) (n + 1) cap) ∧ GotTable (.returned (.pointer (some ⟨g, n * 4, none⟩))) w w' B wb ts name := by
  subst en
  obtain ⟨cw, hcw, _⟩ := h.row
  have hgrow : ∃ cg, w1.heap[g]? = some (.cells cg 54 (0, 0)) := by
    rcases h.tabs.row with ⟨q, _⟩ | ⟨g', cap', e, _, _, cc, hcc, _⟩
    · cases q
    · simp only [Value.slice.injEq, Option.some.injEq, Addr.mk.injEq] at e
      obtain ⟨⟨rfl, _⟩, _⟩ := e
      exact ⟨cc, hcc⟩
  obtain ⟨cg, hcg⟩ := hgrow
  have hne : g ≠ wb := fun e => by subst e; rw [hcw] at hcg; simp at hcg
  have hcg' : (w1.setCell ⟨wb, 0, none⟩ (.slice (some ⟨g, 0, none⟩) (ts.length + 1) cap)).heap[g]? = some (.cells cg 54 (0, 0)) := (heap_setCell_other _ _ _ _ hne).trans hcg
  have hlog : B ≤ g := h.tabs.lo g rfl
  refine added hB h hbw hkw hn rfl hl hf ?_ ?_ ?_ ?_ ?_
  · exact TabsIs.reslice (h.tabs.kept (TKeep.set hcw (by decide) (by decide) (fun q => absurd q (by decide)) 0 _)) (by simpa using hB) hc name
  · exact (((h.row.set 0 _).congr fun i hi => by rcases (by omega : i = 0 ∨ i = 1) with rfl | rfl <;> rfl)).setOther hne.symm _
  · exact (h.ix.set hcw 0 _).set hcg' _ _
  · exact ((Below.refl B w1).setCell h.lo _).setCell hlog _
  · exact (Keep63.set hcw (by decide) 0 _).trans (Keep63.set hcg' (by decide) _ _)

theorem added_append {w1 W0 w2 : World} {g n cap : Nat} (hB : B ≤ w1.heap.size) (h : WsIs w1 B wb tv xv ts) (hbw : Below B w w1) (hkw : Keep63 w w1) (hn : ts.length < 1000000) (en : n = ts.length) (hl : name.length ≤ 65536) (hf : findT (plain ts) name = none)
    (hb0 : Below w1.heap.size w1 W0) (hg : Grew W0 w2 54 4 tabZ (tabCell 4 ts) (tabF (newTab name)) tv (.slice (some ⟨g, 0, none⟩) (n + 1) cap) ts.length) :
    (w2.cell? ⟨wb, 0, none⟩ = some tv ∧ w2.frozen? ⟨wb, 0, none⟩ = false) ∧
    Calls Tryf.prog 28 #[.pointer (some ⟨wb, 1, none⟩), .slice (some ⟨g, 0, none⟩) (n + 1) cap, .func (.func 27) #[] #[]] (w2.setCell ⟨wb, 0, none⟩ (.slice (some ⟨g, 0, none⟩) (n + 1) cap)).drew fun e w' => e = .returned (.tuple #[]) ∧
      w'.cell? ⟨wb, 0, none⟩ = some (.slice (some ⟨g, 0, none⟩) (n + 1) cap) ∧ GotTable (.returned (.pointer (some ⟨g, n * 4, none⟩))) w w' B wb ts name := by
  subst en
  have h0 := h.of_below hb0
  have hB0 : B ≤ W0.heap.size := Nat.le_trans hB hb0.size
  have hrow2 : w2.rowIs wb 31 2 (wsF tv xv) := by
    obtain ⟨cw, hcw, _⟩ := h0.row
    exact h0.row.of_block (grown_other h0.tabs.row hg.grown hcw (by decide))
  have hix2 : IxIs w2 B xv ts := by
    rcases h0.ix with q | ⟨mb, D, h1, h2, h3, h4, h5⟩
    · exact .inl q
    · refine .inr ⟨mb, D, h1, h2, h3, h4.kept hg.grown fun e => ?_, h5⟩
      obtain ⟨_, c, hc⟩ := h0.tabs.row.lt e.symm
      exact map_ne h4 hc rfl
  have ht2 := h0.tabs.addTab (by decide) (by decide) (by decide) (newTab name) rfl rfl hg.rows hg.grown hg.own hB0
  have hbel : Below B w1 w2 := (hb0.mono hB).trans (hg.below hB0 h0.tabs.lo)
  have hkeep : Keep63 w1 w2 := (Keep63.of_below hb0).trans fun b c hc => grown_other h0.tabs.row hg.grown hc (by decide)
  refine ⟨⟨hrow2.cell (i := 0) (by decide), hrow2.frozen 0⟩, ?_⟩
  obtain ⟨cw, hcw, _⟩ := hrow2
  refine added hB h hbw hkw hn rfl hl hf ?_ ?_ ?_ ?_ ?_
  · exact ht2.kept (TKeep.set hcw (by decide) (by decide) (fun q => absurd q (by decide)) 0 _)
  · exact (World.rowIs.set ⟨cw, hcw, by assumption⟩ 0 _).congr fun i hi => by rcases (by omega : i = 0 ∨ i = 1) with rfl | rfl <;> rfl
  · exact hix2.set hcw 0 _
  · exact hbel.setCell h.lo _
  · exact hkeep.trans (Keep63.set hcw (by decide) 0 _)
end
end Go.Proofs.Qxb6616086aFmt

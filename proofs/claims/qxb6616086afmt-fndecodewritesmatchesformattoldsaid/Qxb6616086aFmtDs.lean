import Derived.Test.Qxb6616086aFmtTd
/-! decodeWrites' STATE, step by step. -/
namespace Go.Proofs.Qxb6616086aFmt
open Go.RowKit Go.Maps

/-! ### The machine's steps, with no memory in sight -/
section
variable {b : List UInt8} {ts : List PTab} {p t cnt : Nat} {bad : Bool}
theorem reach_stop (hr : Reach b ⟨0, ts, p, t, cnt, bad⟩) (hp : ¬ p < b.length) : Ends b ts false := by
  have := hr.out rfl
  unfold stepOut at this
  rw [if_neg hp] at this
  exact this.ends rfl
theorem reach_noName (hr : Reach b ⟨0, ts, p, t, cnt, bad⟩) (hp : p < b.length) (hf : fieldAt b p = none) : Ends b (addT ts []) true := by
  have := hr.out rfl
  unfold stepOut at this
  simp only [if_pos hp, hf] at this
  exact this.ends rfl
theorem reach_noCount {s e : Nat} (hr : Reach b ⟨0, ts, p, t, cnt, bad⟩) (hp : p < b.length) (hf : fieldAt b p = some (s, e)) (hu : uvAt b e = none) : Ends b (addT ts (sub b s e)) true := by
  have := hr.out rfl
  unfold stepOut at this
  simp only [if_pos hp, hf, hu] at this
  exact this.ends rfl
theorem reach_enter {s e n q : Nat} (hr : Reach b ⟨0, ts, p, t, cnt, bad⟩) (hp : p < b.length) (hf : fieldAt b p = some (s, e)) (hu : uvAt b e = some (n, q)) : Reach b ⟨1, addT ts (sub b s e), q, atT ts (sub b s e), n, bad⟩ := by
  have := hr.out rfl
  unfold stepOut at this
  simp only [if_pos hp, hf, hu] at this
  exact this
theorem reach_leave (hr : Reach b ⟨1, ts, p, t, 0, bad⟩) : Reach b ⟨0, ts, p, t, 0, bad⟩ := by
  have := hr.inn rfl
  unfold stepIn at this
  simpa using this
theorem reach_short (hr : Reach b ⟨1, ts, p, t, cnt, bad⟩) (hc : cnt ≠ 0) (hp : b.length ≤ p) : Ends b ts true := by
  have := hr.inn rfl
  unfold stepIn at this
  simp only [if_neg hc, if_pos hp] at this
  exact this.ends rfl
theorem reach_drop (hr : Reach b ⟨1, ts, p, t, cnt, bad⟩) (hc : cnt ≠ 0) (hp : p < b.length) (hk : (b.getD p 0).toNat = 3) : Reach b ⟨1, setDrop ts t, p + 1, t, cnt - 1, bad⟩ := by
  have := hr.inn rfl
  unfold stepIn at this
  simp only [if_neg hc, if_neg (show ¬ b.length ≤ p by omega), if_pos hk] at this
  exact this
theorem reach_took {c : PChg} {p' : Nat} (hr : Reach b ⟨1, ts, p, t, cnt, bad⟩) (hc : cnt ≠ 0) (hk : TakesC b p c p') : Reach b ⟨1, addC ts t c, p', t, cnt - 1, bad⟩ := by
  have := hr.inn rfl
  rw [hk _ _ _ _ hc] at this
  exact this
theorem reach_ended {c : PChg} (hr : Reach b ⟨1, ts, p, t, cnt, bad⟩) (hc : cnt ≠ 0) (hk : EndsC b p c) : Ends b (addC ts t c) true := by
  have := hr.inn rfl
  rw [hk _ _ _ _ hc] at this
  exact this.ends rfl
theorem reach_unknown (hr : Reach b ⟨1, ts, p, t, cnt, bad⟩) (hc : cnt ≠ 0) (hp : p < b.length) (h1 : (b.getD p 0).toNat ≠ 1) (h2 : (b.getD p 0).toNat ≠ 2) (h3 : (b.getD p 0).toNat ≠ 3) : Ends b ts true := by
  have := hr.inn rfl
  unfold stepIn at this
  simp only [if_neg hc, if_neg (show ¬ b.length ≤ p by omega), if_neg h1, if_neg h2, if_neg h3] at this
  cases hf : fieldAt b (p + 1) with
  | none => simp only [hf] at this; exact this.ends rfl
  | some f => simp only [hf] at this; exact this.ends rfl
end

/-! ### Frames -/
section
variable {w wr w1 w2 : World} {rb wb pb B : Nat} {b : List UInt8} {tv xv ev : Value} {ts : List MTab} {p t cnt md : Nat}

theorem Rd.keep (h : Rd w rb pb b p ev) (hk : Keep63 w w1) : Rd w1 rb pb b p ev := by
  obtain ⟨A, hA, hr⟩ := h.row
  obtain ⟨c, hc, _⟩ := hr
  exact ⟨h.le, A, hA, World.rowIs.of_block ⟨c, hc, by assumption⟩ (hk rb c hc)⟩
theorem RdBad.keep (h : RdBad w rb pb b) (hk : Keep63 w w1) : RdBad w1 rb pb b := by
  obtain ⟨p, t, v, h⟩ := h
  exact ⟨p, t, v, h.keep hk⟩
theorem Rd.blk (h : Rd w rb pb b p ev) : ∃ c, w.heap[rb]? = some (.cells c 63 (0, 0)) := by
  obtain ⟨A, hA, c, hc, _⟩ := h.row
  exact ⟨c, hc⟩
theorem RdBad.blk (h : RdBad w rb pb b) : ∃ c, w.heap[rb]? = some (.cells c 63 (0, 0)) := by
  obtain ⟨p, t, v, h⟩ := h
  exact h.blk

/-- The reader turns: the write set stands. -/
theorem WsIs.turn (h : WsIs w B wb tv xv ts) (hr : ∃ c, w.heap[rb]? = some (.cells c 63 (0, 0))) (hg : w.grownBy w1 (some rb)) : WsIs w1 B wb tv xv ts := by
  obtain ⟨c, hc⟩ := hr
  have hne : ∀ (b : Nat) (x : Array Value) (tg : TypeId) (fr : Nat × Nat), w.heap[b]? = some (.cells x tg fr) → tg ≠ 63 → some b ≠ some rb := fun b x tg fr hb ht e => by
    have e' : b = rb := Option.some.inj e
    subst e'
    rw [hc] at hb
    simp only [Option.some.injEq, Obj.cells.injEq] at hb
    exact ht hb.2.1.symm
  refine ⟨?_, h.lo, h.tabs.kept fun b x tg hb ht => hg.block b (Array.getElem?_eq_some_iff.1 hb).1 (hne b x tg _ hb (by rcases ht with q | q | ⟨q, _⟩ <;> (rw [q]; decide))), h.uniq, h.nlen, ?_⟩
  · obtain ⟨cw, hcw, _⟩ := h.row
    exact h.row.of_block (hg.block wb h.row.lt (hne wb cw _ _ hcw (by decide)))
  · rcases h.ix with q | ⟨mb, D, h1, h2, h3, h4, h5⟩
    · exact .inl q
    · exact .inr ⟨mb, D, h1, h2, h3, h4.kept hg (map_ne h4 hc).symm, h5⟩

theorem uniq_set {m : MTab} (hu : Uniq ts) (ht : t < ts.length) (hm : m.name = (tabAt ts t).name) : Uniq (ts.set t m) := fun i j hi hj he => by
  rw [List.length_set] at hi hj
  have e1 : ∀ k, (tabAt (ts.set t m) k).name = (tabAt ts k).name := fun k => by
    rw [tabAt_set ts t m k ht]
    by_cases e : k = t
    · rw [if_pos e, e, hm]
    · rw [if_neg e]
  rw [e1, e1] at he
  exact hu i j hi hj he
theorem nlen_set {m : MTab} (hl : ∀ i, (tabAt ts i).name.length ≤ 65536) (ht : t < ts.length) (hm : m.name = (tabAt ts t).name) : ∀ i, (tabAt (ts.set t m) i).name.length ≤ 65536 := fun k => by
  rw [tabAt_set ts t m k ht]
  by_cases e : k = t
  · rw [if_pos e, hm]; exact hl t
  · rw [if_neg e]; exact hl k

theorem IxIs.names {ts' : List MTab} (h : IxIs w B xv ts) (hl : ts'.length = ts.length) (hn : ∀ l, findT (plain ts') l = findT (plain ts) l) : IxIs w B xv ts' := by
  rcases h with ⟨h1, h2⟩ | ⟨mb, D, h1, h2, h3, h4, h5⟩
  · exact .inl ⟨h1, by omega⟩
  · exact .inr ⟨mb, D, h1, by omega, h3, by rw [hl]; exact h4, fun l => by rw [hn l]; exact h5 l⟩
theorem find_set {m : MTab} (ht : t < ts.length) (hm : m.name = (tabAt ts t).name) (l : List UInt8) : findT (plain (ts.set t m)) l = findT (plain ts) l := by
  have e : ∀ (xs : List PTab), findT xs l = (xs.map PTab.name).findIdx? (· == l) := fun xs => by
    unfold findT
    rw [List.findIdx?_map]
    rfl
  rw [e, e]
  congr 1
  unfold plain
  rw [List.map_map, List.map_map]
  apply List.ext_getElem
  · simp
  · intro i h1 h2
    simp only [List.getElem_map, List.getElem_set, Function.comp]
    split
    · next q =>
      subst q
      show m.name = _
      rw [hm]
      simp [tabAt, ht, MTab.pl]
    · rfl

theorem WsIs.tblk {g n cap : Nat} (h : WsIs w B wb (.slice (some ⟨g, 0, none⟩) n cap) xv ts) : ∃ c, w.heap[g]? = some (.cells c 54 (0, 0)) := by
  rcases h.tabs.row with ⟨q, _⟩ | ⟨g', cap', e, _, _, cc, hcc, _⟩
  · cases q
  · simp only [Value.slice.injEq, Option.some.injEq, Addr.mk.injEq] at e
    obtain ⟨⟨rfl, _⟩, _⟩ := e
    exact ⟨cc, hcc⟩

theorem WsIs.drop {g n cap : Nat} (h : WsIs w B wb (.slice (some ⟨g, 0, none⟩) n cap) xv ts) (ht : t < ts.length) :
    WsIs (w.setCell ⟨g, t * 4 + 1, none⟩ (.bool true)) B wb (.slice (some ⟨g, 0, none⟩) n cap) xv (ts.set t { tabAt ts t with drop := true }) ∧ Keep63 w (w.setCell ⟨g, t * 4 + 1, none⟩ (.bool true)) ∧ Below B w (w.setCell ⟨g, t * 4 + 1, none⟩ (.bool true)) := by
  obtain ⟨cg, hcg⟩ := h.tblk
  obtain ⟨cw, hcw, _⟩ := h.row
  have hne : wb ≠ g := fun e => by subst e; rw [hcw] at hcg; simp at hcg
  exact ⟨⟨h.row.setOther hne _, h.lo, h.tabs.drop (by decide) (by decide) (by decide) ht rfl, uniq_set h.uniq ht rfl, nlen_set h.nlen ht rfl, (h.ix.set hcg _ _).names (by rw [List.length_set]) (find_set ht rfl)⟩,
    Keep63.set hcg (by decide) _ _, (Below.refl B w).setCell (h.tabs.lo g rfl) _⟩

/-- A change has been appended to table t's. -/
theorem WsIs.grow {g n cap : Nat} {c : MChg} {cv' : Value} (h : WsIs w B wb (.slice (some ⟨g, 0, none⟩) n cap) xv ts) (hB : B ≤ w.heap.size) (ht : t < ts.length)
    (hg : Grew w w2 58 3 chgZ (chgCell (tabAt ts t).cs) (chgF c) (tabAt ts t).cv cv' (tabAt ts t).cs.length) (hv : ValIs w B c) :
    (w2.cell? ⟨g, t * 4 + 2, none⟩ = some (tabAt ts t).cv ∧ w2.frozen? ⟨g, t * 4 + 2, none⟩ = false) ∧
    WsIs (w2.setCell ⟨g, t * 4 + 2, none⟩ cv') B wb (.slice (some ⟨g, 0, none⟩) n cap) xv (ts.set t { tabAt ts t with cv := cv', cs := (tabAt ts t).cs ++ [c] }) ∧ Keep63 w (w2.setCell ⟨g, t * 4 + 2, none⟩ cv') ∧ Below B w (w2.setCell ⟨g, t * 4 + 2, none⟩ cv') := by
  obtain ⟨cg, hcg⟩ := h.tblk
  obtain ⟨cw, hcw, _⟩ := h.row
  have hbut := h.tabs.grow (by decide) (by decide) ht hg.grown
  have hv' : ValIs w2 B c := hv.kept fun k cs _ hc => grown_other (h.tabs.chg t ht) hg.grown hc (by decide)
  have hcg2 : w2.heap[g]? = some (.cells cg 54 (0, 0)) := (grown_other (h.tabs.chg t ht) hg.grown hcg (by decide)).trans hcg
  have hcw2 : w2.heap[wb]? = w.heap[wb]? := grown_other (h.tabs.chg t ht) hg.grown hcw (by decide)
  have hne : wb ≠ g := fun e => by subst e; rw [hcw] at hcg; simp at hcg
  have hix2 : IxIs w2 B xv ts := by
    rcases h.ix with q | ⟨mb, D, h1, h2, h3, h4, h5⟩
    · exact .inl q
    · refine .inr ⟨mb, D, h1, h2, h3, h4.kept hg.grown fun e => ?_, h5⟩
      obtain ⟨_, c', hc'⟩ := (h.tabs.chg t ht).lt e.symm
      exact map_ne h4 hc' rfl
  have hk2 : Keep63 w w2 := fun b c hc => grown_other (h.tabs.chg t ht) hg.grown hc (by decide)
  refine ⟨row_cell hbut.row rfl ht (k := 2) (by decide), ⟨(h.row.of_block hcw2).setOther hne _, h.lo, ?_, uniq_set h.uniq ht rfl, nlen_set h.nlen ht rfl, (hix2.set hcg2 _ _).names (by rw [List.length_set]) (find_set ht rfl)⟩,
    hk2.trans (Keep63.set hcg2 (by decide) _ _), (hg.below hB (h.tabs.clo t ht)).setCell (h.tabs.lo g rfl) _⟩
  refine hbut.addChg (by decide) (by decide) (by decide) ht rfl c cv' hg.rows (fun i hi hne k hk => ?_) (hg.lo hB (h.tabs.clo t ht)) hv'
  rcases hg.own with ⟨q, _⟩ | q
  · rw [q]
    exact fun q2 => hne (h.tabs.apart i t hi ht k hk q2)
  · rw [q]
    intro q2
    have := ((h.tabs.chg i hi).lt hk).1
    simp only [Option.some.injEq] at q2
    omega
end
end Go.Proofs.Qxb6616086aFmt

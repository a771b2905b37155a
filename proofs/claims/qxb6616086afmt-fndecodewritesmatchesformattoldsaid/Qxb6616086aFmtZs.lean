import Derived.Test.Qxb6616086aFmtDv
/-! ZZtables: what is handed out, table by table. -/
namespace Go.Proofs.Qxb6616086aFmt
open Go.RowKit Go.Maps

section
variable {w w' : World} {B T s C : Nat} {tv tv' : Value} {ts : List MTab}
/-- One table more, with its changes, by append. -/
theorem TabsIs.addFull (h : TabsIs w B T s C tv ts) (hs : 0 < s) (hT : C ≠ T) (hT5 : 5 ≠ T) (m : MTab) (hm : Rows w C 3 chgZ (chgCell m.cs) m.cv m.cs.length) (hmlo : ∀ k, m.cv.ownBlock = some k → B ≤ k) (hmv : ∀ j, j < m.cs.length → ValIs w B (chgAt m.cs j))
    (hap : ∀ i, i < ts.length → ∀ k, (tabAt ts i).cv.ownBlock = some k → m.cv.ownBlock ≠ some k)
    (hr : Rows w' T s tabZ (behind ts.length s (tabCell s ts) (tabF m)) tv' (ts.length + 1)) (hg : w.grownBy w' tv.ownBlock) (ho : (tv'.ownBlock = tv.ownBlock ∧ tv.ownBlock ≠ none) ∨ tv'.ownBlock = some w.heap.size) (hB : B ≤ w.heap.size) :
    TabsIs w' B T s C tv' (ts ++ [m]) := by
  have hl : (ts ++ [m]).length = ts.length + 1 := by simp
  have hat : ∀ i, i < ts.length → tabAt (ts ++ [m]) i = tabAt ts i := fun i hi => by rw [tabAt_snoc, if_neg (by omega)]
  have hlast : tabAt (ts ++ [m]) ts.length = m := by rw [tabAt_snoc, if_pos rfl]
  have keepRows : ∀ {f : Nat → Value} {v : Value} {n : Nat}, Rows w C 3 chgZ f v n → Rows w' C 3 chgZ f v n := fun hq => hq.kept fun k hk => by
    obtain ⟨_, c, hc⟩ := hq.lt hk
    exact grown_other h.row hg hc hT
  refine ⟨?_, fun k hk => ?_, fun i hi => ?_, fun i hi k hk => ?_, fun i hi j hj => ?_, fun i j hi hj k hk hk' => ?_⟩
  · rw [hl]
    exact hr.congr fun i hi => tabCell_snoc hs ts m i hi
  · rcases ho with ⟨e, _⟩ | e
    · exact h.lo k (e ▸ hk)
    · rw [e] at hk
      cases hk
      exact hB
  · by_cases e : i = ts.length
    · subst e
      rw [hlast]
      exact keepRows hm
    · have hi' : i < ts.length := by omega
      rw [hat i hi']
      exact keepRows (h.chg i hi')
  · by_cases e : i = ts.length
    · subst e
      rw [hlast] at hk
      exact hmlo k hk
    · rw [hat i (by omega)] at hk
      exact h.clo i (by omega) k hk
  · by_cases e : i = ts.length
    · subst e
      rw [hlast] at hj ⊢
      exact (hmv j hj).kept fun b cs _ hc => grown_other h.row hg hc hT5
    · have hi' : i < ts.length := by omega
      rw [hat i hi'] at hj ⊢
      exact (h.val i hi' j hj).kept fun b cs _ hc => grown_other h.row hg hc hT5
  · by_cases e : i = ts.length
    · by_cases e' : j = ts.length
      · omega
      · subst e
        rw [hlast] at hk
        rw [hat j (by omega)] at hk'
        exact absurd hk (hap j (by omega) k hk')
    · by_cases e' : j = ts.length
      · subst e'
        rw [hlast] at hk'
        rw [hat i (by omega)] at hk
        exact absurd hk' (hap i (by omega) k hk)
      · rw [hat i (by omega)] at hk
        rw [hat j (by omega)] at hk'
        exact h.apart i j (by omega) (by omega) k hk hk'
end

/-- The table under way: its own block, and the changes taken so far. -/
structure TabW (wr wi : World) (tbk : Nat) (name : List UInt8) (d : Bool) (cs : List MChg) (j : Nat) (cvT : Value) : Prop where
  below : Below wr.heap.size wr wi
  row : wi.rowIs tbk 42 3 (tabF ⟨name, d, cvT, []⟩)
  tlo : wr.heap.size ≤ tbk
  rows : Rows wi 51 3 chgZ (chgCell (cs.take j)) cvT j
  lo : ∀ k, cvT.ownBlock = some k → wr.heap.size ≤ k
  jle : j ≤ cs.length

section
variable {wr wi w0 w2 : World} {tbk : Nat} {name : List UInt8} {d : Bool} {cs : List MChg} {j : Nat} {cvT : Value}

theorem TabW.start (wr : World) (name : List UInt8) (d : Bool) (cs : List MChg) (wi : World) (hb : Below wr.heap.size wr wi) (tbk : Nat) (ht : wr.heap.size ≤ tbk) (hr : wi.rowIs tbk 42 3 (tabF ⟨name, d, .slice none 0 0, []⟩)) : TabW wr wi tbk name d cs 0 (.slice none 0 0) :=
  ⟨hb, hr, ht, Rows.nil _ _ _ _ _, fun k hk => by simp [Value.ownBlock] at hk, Nat.zero_le _⟩

theorem chg_take (cs : List MChg) {j : Nat} (hj : j < cs.length) : cs.take (j + 1) = cs.take j ++ [chgAt cs j] := by
  rw [List.take_succ_eq_append_getElem hj]
  simp [chgAt, hj]

theorem TabW.next {cv' : Value} (h : TabW wr wi tbk name d cs j cvT) (hj : j < cs.length) (h0 : Below wi.heap.size wi w0)
    (hg : Grew w0 w2 51 3 chgZ (chgCell (cs.take j)) (chgF (chgAt cs j)) cvT cv' j) :
    (w2.cell? ⟨tbk, 2, none⟩ = some cvT ∧ w2.frozen? ⟨tbk, 2, none⟩ = false) ∧ TabW wr (w2.setCell ⟨tbk, 2, none⟩ cv') tbk name d cs (j + 1) cv' := by
  have hr0 : w0.rowIs tbk 42 3 (tabF ⟨name, d, cvT, []⟩) := h.row.of_block (h0.block tbk h.row.lt)
  have hrows0 : Rows w0 51 3 chgZ (chgCell (cs.take j)) cvT j := h.rows.kept fun k hk => h0.block k (h.rows.lt hk).1
  have hr2 : w2.rowIs tbk 42 3 (tabF ⟨name, d, cvT, []⟩) := by
    have hr0' := hr0
    obtain ⟨c, hc, _⟩ := hr0'
    exact hr0.of_block (grown_other hrows0 hg.grown hc (by decide))
  have hB : wr.heap.size ≤ w0.heap.size := Nat.le_trans h.below.size h0.size
  have hlo' := hg.lo hB h.lo
  refine ⟨⟨hr2.cell (i := 2) (by decide), hr2.frozen 2⟩, ⟨?_, ?_, h.tlo, ?_, hlo', hj⟩⟩
  · exact ((h.below.trans (h0.mono h.below.size)).trans (hg.below hB h.lo)).setCell h.tlo _
  · exact (hr2.set 2 cv').congr fun i hi => by rcases (by omega : i = 0 ∨ i = 1 ∨ i = 2) with rfl | rfl | rfl <;> rfl
  · have hlen : (cs.take j).length = j := by rw [List.length_take]; omega
    have h1 : Rows w2 51 3 chgZ (chgCell (cs.take (j + 1))) cv' (j + 1) := by
      rw [chg_take cs hj]
      refine hg.rows.congr fun i hi => ?_
      have := chgCell_snoc (cs.take j) (chgAt cs j) i (by rw [hlen]; exact hi)
      rw [hlen] at this
      exact this
    refine h1.kept fun k hk => heap_setCell_other _ _ _ _ fun e => ?_
    have e' : k = tbk := e
    subst e'
    obtain ⟨_, c, hc⟩ := h1.lt hk
    obtain ⟨c', hc', _⟩ := hr2
    rw [hc] at hc'
    simp at hc'
end

structure OutW (W0 wr : World) (B : Nat) (ov : Value) (ts ts2 : List MTab) (i : Nat) : Prop where
  below : Below W0.heap.size W0 wr
  tabs : TabsIs wr B 42 3 51 ov ts2
  pl : plain ts2 = plain (ts.take i)
  ile : i ≤ ts.length
  olo : ∀ k, ov.ownBlock = some k → W0.heap.size ≤ k

theorem OutW.len {W0 wr : World} {B i : Nat} {ov : Value} {ts ts2 : List MTab} (h : OutW W0 wr B ov ts ts2 i) : ts2.length = i := by
  have := congrArg List.length h.pl
  rw [plain_length, plain_length, List.length_take] at this
  have := h.ile
  omega

/-- A table is whole: it goes behind the others. -/
theorem OutW.next {W0 wr wi w0 w2 : World} {B i tbk : Nat} {tv ov ov' cvT : Value} {ts ts2 : List MTab} (h : OutW W0 wr B ov ts ts2 i) (hi : i < ts.length) (hsrc : TabsIs W0 B 54 4 58 tv ts) (hB : B ≤ W0.heap.size) (ht : TabW wr wi tbk (tabAt ts i).name (tabAt ts i).drop (tabAt ts i).cs (tabAt ts i).cs.length cvT)
    (h0 : Below wi.heap.size wi w0) (hg : Grew w0 w2 42 3 tabZ (tabCell 3 ts2) (tabF ⟨(tabAt ts i).name, (tabAt ts i).drop, cvT, (tabAt ts i).cs⟩) ov ov' ts2.length) :
    OutW W0 w2 B ov' ts (ts2 ++ [⟨(tabAt ts i).name, (tabAt ts i).drop, cvT, (tabAt ts i).cs⟩]) (i + 1) := by
  have hb0 : Below wr.heap.size wr w0 := ht.below.trans (h0.mono ht.below.size)
  have hBw : B ≤ wr.heap.size := Nat.le_trans hB h.below.size
  have hB0 : B ≤ w0.heap.size := Nat.le_trans hBw hb0.size
  have ht0 := h.tabs.of_below hb0
  have hall : Below W0.heap.size W0 w0 := h.below.trans (hb0.mono h.below.size)
  have hrows : Rows w0 51 3 chgZ (chgCell (tabAt ts i).cs) cvT (tabAt ts i).cs.length := by
    have := ht.rows
    rw [List.take_length] at this
    exact this.kept fun k hk => h0.block k (this.lt hk).1
  refine ⟨hall.trans (hg.below hall.size h.olo), ?_, ?_, hi, hg.lo hall.size h.olo⟩
  · refine ht0.addFull (by decide) (by decide) (by decide) ⟨(tabAt ts i).name, (tabAt ts i).drop, cvT, (tabAt ts i).cs⟩ hrows (fun k hk => Nat.le_trans hBw (ht.lo k hk)) (fun j hj => ((hsrc.val i hi j hj).of_below hall)) (fun i' hi' k hk q => ?_) hg.rows hg.grown hg.own hB0
    have h1 := ((h.tabs.chg i' hi').lt hk).1
    have h2 := ht.lo k q
    omega
  · rw [take_snoc ts hi, plain_snoc, plain_snoc, h.pl]
    rfl
end Go.Proofs.Qxb6616086aFmt

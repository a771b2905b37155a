import Derived.Test.Qxb6616086aFmtSl
/-! zzDecodeModel's state, step by step. -/
namespace Go.Proofs.Qxb6616086aFmt
open Go.RowKit

/-- What zzDecodeModel has laid: md 0 between tables, 1 inside one. -/
structure MSt (w wr : World) (b : List UInt8) (md : Nat) (tv : Value) (ts : List MTab) (p t cnt : Nat) : Prop where
  below : Below w.heap.size w wr
  tabs : TabsIs wr w.heap.size 42 3 51 tv ts
  reach : ∃ bad, Reach b ⟨md, plain ts, p, t, cnt, bad⟩
  len : ts.length ≤ p
  clen : ∀ i, (tabAt ts i).cs.length ≤ p

def GotModel (e : Ending) (w w' : World) (b : List UInt8) : Prop := ∃ tv ts bad, e = .returned (.tuple #[tv, .bool bad]) ∧ TabsIs w' w.heap.size 42 3 51 tv ts ∧ Ends b (plain ts) bad ∧ Below w.heap.size w w'

theorem MSt.start (w : World) (b : List UInt8) : MSt w w b 0 (.slice none 0 0) [] 0 0 0 :=
  ⟨Below.refl _ _, TabsIs.nil _ _ _ _ _, ⟨false, Reach.start b⟩, by simp, fun i => by simp [tabAt, mtab0]⟩

theorem row_cell {w : World} {T s : Nat} {tv : Value} {ts : List MTab} (h : Rows w T s tabZ (tabCell s ts) tv ts.length) {g n cap : Nat} (htv : tv = .slice (some ⟨g, 0, none⟩) n cap) {t k : Nat} (ht : t < ts.length) (hk : k < s) : w.cell? ⟨g, t * s + k, none⟩ = some (tabF (tabAt ts t) k) ∧ w.frozen? ⟨g, t * s + k, none⟩ = false := by
  obtain ⟨g', cap', e, hc, _, hrow⟩ := h.at (by omega)
  rw [htv] at e
  simp only [Value.slice.injEq, Option.some.injEq, Addr.mk.injEq] at e
  obtain ⟨⟨rfl, _⟩, _, rfl⟩ := e
  have hlt := tab_lt ht hk hc
  have hd := tab_div (t := t) hk
  refine ⟨?_, hrow.frozen _⟩
  rw [hrow.cell hlt.2]
  simp only [if_pos hlt.1, tabCell, hd.1, hd.2]

theorem addT_length (ts : List PTab) (name : List UInt8) : (addT ts name).length ≤ ts.length + 1 := by
  unfold addT
  split
  · omega
  · simp
theorem addT_cs (ts : List PTab) (name : List UInt8) (i : Nat) : ((addT ts name).getD i tab0).cs.length ≤ (ts.getD i tab0).cs.length := by
  unfold addT
  split
  · exact Nat.le_refl _
  · rw [List.getD_eq_getElem?_getD, List.getD_eq_getElem?_getD]
    by_cases h : i < ts.length
    · rw [List.getElem?_append_left h]
      exact Nat.le_refl _
    · rw [List.getElem?_append_right (by omega)]
      by_cases e : i - ts.length = 0
      · rw [e]; simp
      · rw [List.getElem?_eq_none (by simp; omega)]
        simp [tab0]
theorem cs_pl (ts : List MTab) (i : Nat) : ((plain ts).getD i tab0).cs.length = (tabAt ts i).cs.length := by
  rw [tabAt_pl]
  unfold MTab.pl
  simp

section
variable {w wr w' : World} {b : List UInt8} {tv tv' : Value} {ts ts' : List MTab} {p t cnt : Nat}

theorem MSt.stop (h : MSt w wr b 0 tv ts p t cnt) (hp : ¬ p < b.length) : GotModel (.returned (.tuple #[tv, .bool false])) w wr b := by
  obtain ⟨bad, hr⟩ := h.reach
  refine ⟨tv, ts, false, rfl, h.tabs, ?_, h.below⟩
  have := hr.out rfl
  unfold stepOut at this
  rw [if_neg hp] at this
  exact this.ends rfl

theorem MSt.noName (h : MSt w wr b 0 tv ts p t cnt) (hp : p < b.length) (hf : fieldAt b p = none) (ht : TabsIs w' w.heap.size 42 3 51 tv' ts') (hpl : plain ts' = addT (plain ts) []) (hb : Below w.heap.size wr w') : GotModel (.returned (.tuple #[tv', .bool true])) w w' b := by
  obtain ⟨bad, hr⟩ := h.reach
  refine ⟨tv', ts', true, rfl, ht, ?_, h.below.trans hb⟩
  have := hr.out rfl
  unfold stepOut at this
  simp only [if_pos hp, hf] at this
  rw [hpl]
  exact this.ends rfl

theorem MSt.noCount {s e : Nat} (h : MSt w wr b 0 tv ts p t cnt) (hp : p < b.length) (hf : fieldAt b p = some (s, e)) (hu : uvAt b e = none) (ht : TabsIs w' w.heap.size 42 3 51 tv' ts') (hpl : plain ts' = addT (plain ts) (sub b s e)) (hb : Below w.heap.size wr w') : GotModel (.returned (.tuple #[tv', .bool true])) w w' b := by
  obtain ⟨bad, hr⟩ := h.reach
  refine ⟨tv', ts', true, rfl, ht, ?_, h.below.trans hb⟩
  have := hr.out rfl
  unfold stepOut at this
  simp only [if_pos hp, hf, hu] at this
  rw [hpl]
  exact this.ends rfl

theorem MSt.enter {s e n q : Nat} (h : MSt w wr b 0 tv ts p t cnt) (hp : p < b.length) (hf : fieldAt b p = some (s, e)) (hu : uvAt b e = some (n, q)) (ht : TabsIs w' w.heap.size 42 3 51 tv' ts') (hpl : plain ts' = addT (plain ts) (sub b s e)) (hb : Below w.heap.size wr w') : MSt w w' b 1 tv' ts' q (atT (plain ts) (sub b s e)) n := by
  obtain ⟨bad, hr⟩ := h.reach
  have h1 := fieldAt_le (Nat.le_of_lt hp) hf
  have h2 := uvAt_le h1.2.2 hu
  refine ⟨h.below.trans hb, ht, ⟨bad, ?_⟩, ?_, fun i => ?_⟩
  · have := hr.out rfl
    unfold stepOut at this
    simp only [if_pos hp, hf, hu] at this
    rw [hpl]
    exact this
  · have e1 := addT_length (plain ts) (sub b s e)
    rw [← hpl, plain_length, plain_length] at e1
    have := h.len
    omega
  · have e1 := addT_cs (plain ts) (sub b s e) i
    rw [← hpl, cs_pl, cs_pl] at e1
    have := h.clen i
    omega

theorem MSt.leave (h : MSt w wr b 1 tv ts p t 0) : MSt w wr b 0 tv ts p t 0 := by
  obtain ⟨bad, hr⟩ := h.reach
  refine ⟨h.below, h.tabs, ⟨bad, ?_⟩, h.len, h.clen⟩
  have := hr.inn rfl
  unfold stepIn at this
  simpa using this

theorem MSt.short (h : MSt w wr b 1 tv ts p t cnt) (hc : cnt ≠ 0) (hp : b.length ≤ p) : GotModel (.returned (.tuple #[tv, .bool true])) w wr b := by
  obtain ⟨bad, hr⟩ := h.reach
  refine ⟨tv, ts, true, rfl, h.tabs, ?_, h.below⟩
  have := hr.inn rfl
  unfold stepIn at this
  simp only [if_neg hc, if_pos hp] at this
  exact this.ends rfl

theorem clen_set {m : MTab} {q : Nat} (hcl : ∀ i, (tabAt ts i).cs.length ≤ q) (ht : t < ts.length) (hm : m.cs.length ≤ q) (i : Nat) : (tabAt (ts.set t m) i).cs.length ≤ q := by
  rw [tabAt_set ts t m i ht]
  by_cases e : i = t
  · rw [if_pos e]; exact hm
  · rw [if_neg e]; exact hcl i

theorem MSt.dropped {g n cap : Nat} (h : MSt w wr b 1 tv ts p t cnt) (hc : cnt ≠ 0) (hp : p < b.length) (hk : (b.getD p 0).toNat = 3) (ht : t < ts.length) (htv : tv = .slice (some ⟨g, 0, none⟩) n cap) :
    MSt w (wr.setCell ⟨g, t * 3 + 1, none⟩ (.bool true)) b 1 tv (ts.set t { tabAt ts t with drop := true }) (p + 1) t (cnt - 1) := by
  obtain ⟨bad, hr⟩ := h.reach
  refine ⟨h.below.setCell (h.tabs.lo g (by rw [htv]; rfl)) _, h.tabs.drop (by decide) (by decide) (by decide) ht htv, ⟨bad, ?_⟩, ?_, ?_⟩
  · have := hr.inn rfl
    unfold stepIn at this
    simp only [if_neg hc, if_neg (show ¬ b.length ≤ p by omega), if_pos hk] at this
    rw [plain_drop]
    exact this
  · rw [List.length_set]; have := h.len; omega
  · intro i
    exact clen_set (m := { tabAt ts t with drop := true }) (fun i => Nat.le_succ_of_le (h.clen i)) ht (Nat.le_succ_of_le (h.clen t)) i

/-- A change has been appended and stored. -/
theorem MSt.put {g n cap : Nat} {c : MChg} {cv' : Value} (h : MSt w wr b 1 tv ts p t cnt) (ht : t < ts.length) (htv : tv = .slice (some ⟨g, 0, none⟩) n cap) (w1 : World) (hb1 : Below wr.heap.size wr w1)
    (hg : Grew w1 w' 51 3 chgZ (chgCell (tabAt ts t).cs) (chgF c) (tabAt ts t).cv cv' (tabAt ts t).cs.length) (hv : ValIs w1 w.heap.size c) :
    TabsIs (w'.setCell ⟨g, t * 3 + 2, none⟩ cv') w.heap.size 42 3 51 tv (ts.set t { tabAt ts t with cv := cv', cs := (tabAt ts t).cs ++ [c] }) ∧ Below w.heap.size w (w'.setCell ⟨g, t * 3 + 2, none⟩ cv') := by
  have ht1 := h.tabs.of_below hb1
  have hB : w.heap.size ≤ w1.heap.size := Nat.le_trans h.below.size hb1.size
  have hbut := ht1.grow (by decide) (by decide) ht hg.grown
  have hv' : ValIs w' w.heap.size c := hv.kept fun k cs _ hc => grown_other (ht1.chg t ht) hg.grown hc (by decide)
  have hbel : Below w.heap.size w w' := (h.below.trans (hb1.mono h.below.size)).trans (hg.below hB (ht1.clo t ht))
  refine ⟨hbut.addChg (by decide) (by decide) (by decide) ht htv c cv' hg.rows (fun i hi hne k hk => ?_) (hg.lo hB (ht1.clo t ht)) hv', hbel.setCell (h.tabs.lo g (by rw [htv]; rfl)) _⟩
  rcases hg.own with ⟨q, _⟩ | q
  · rw [q]
    exact fun q2 => hne (ht1.apart i t hi ht k hk q2)
  · rw [q]
    intro q2
    have := ((ht1.chg i hi).lt hk).1
    simp only [Option.some.injEq] at q2
    omega

/-- Behind the append: the place that the slice goes to. -/
theorem MSt.place {g n cap : Nat} {c : MChg} {cv' : Value} (h : MSt w wr b 1 tv ts p t cnt) (ht : t < ts.length) (htv : tv = .slice (some ⟨g, 0, none⟩) n cap) (w1 : World) (hb1 : Below wr.heap.size wr w1)
    (hg : Grew w1 w' 51 3 chgZ (chgCell (tabAt ts t).cs) (chgF c) (tabAt ts t).cv cv' (tabAt ts t).cs.length) :
    w'.cell? ⟨g, t * 3 + 2, none⟩ = some (tabAt ts t).cv ∧ w'.frozen? ⟨g, t * 3 + 2, none⟩ = false :=
  row_cell (((h.tabs.of_below hb1).grow (by decide) (by decide) ht hg.grown).row) htv ht (k := 2) (by decide)

/-- The machine takes up the change c. -/
def TakesC (b : List UInt8) (p : Nat) (c : PChg) (p' : Nat) : Prop := ∀ (ts : List PTab) (t cnt : Nat) (bad : Bool), cnt ≠ 0 → stepIn b ⟨1, ts, p, t, cnt, bad⟩ = ⟨1, addC ts t c, p', t, cnt - 1, bad⟩
/-- It takes it up and ends. -/
def EndsC (b : List UInt8) (p : Nat) (c : PChg) : Prop := ∀ (ts : List PTab) (t cnt : Nat) (bad : Bool), cnt ≠ 0 → stepIn b ⟨1, ts, p, t, cnt, bad⟩ = fin ⟨1, ts, p, t, cnt, bad⟩ (addC ts t c) true

theorem MSt.took {g n cap p' : Nat} {c : MChg} {cv' : Value} (h : MSt w wr b 1 tv ts p t cnt) (hc : cnt ≠ 0) (ht : t < ts.length) (htv : tv = .slice (some ⟨g, 0, none⟩) n cap) (w1 : World) (hb1 : Below wr.heap.size wr w1)
    (hg : Grew w1 w' 51 3 chgZ (chgCell (tabAt ts t).cs) (chgF c) (tabAt ts t).cv cv' (tabAt ts t).cs.length) (hv : ValIs w1 w.heap.size c) (hk : TakesC b p c.pl p') (hp : p < p') :
    MSt w (w'.setCell ⟨g, t * 3 + 2, none⟩ cv') b 1 tv (ts.set t { tabAt ts t with cv := cv', cs := (tabAt ts t).cs ++ [c] }) p' t (cnt - 1) := by
  obtain ⟨bad, hr⟩ := h.reach
  obtain ⟨h1, h2⟩ := h.put ht htv w1 hb1 hg hv
  refine ⟨h2, h1, ⟨bad, ?_⟩, ?_, ?_⟩
  · have := hr.inn rfl
    rw [hk _ _ _ _ hc] at this
    rw [plain_addC]
    exact this
  · rw [List.length_set]; have := h.len; omega
  · intro i
    refine clen_set (m := { tabAt ts t with cv := cv', cs := (tabAt ts t).cs ++ [c] }) (fun i => by have := h.clen i; omega) ht ?_ i
    show ((tabAt ts t).cs ++ [c]).length ≤ p'
    rw [List.length_append, List.length_singleton]
    have := h.clen t
    omega

theorem MSt.ended {g n cap : Nat} {c : MChg} {cv' : Value} (h : MSt w wr b 1 tv ts p t cnt) (hc : cnt ≠ 0) (ht : t < ts.length) (htv : tv = .slice (some ⟨g, 0, none⟩) n cap) (w1 : World) (hb1 : Below wr.heap.size wr w1)
    (hg : Grew w1 w' 51 3 chgZ (chgCell (tabAt ts t).cs) (chgF c) (tabAt ts t).cv cv' (tabAt ts t).cs.length) (hv : ValIs w1 w.heap.size c) (hk : EndsC b p c.pl) :
    GotModel (.returned (.tuple #[tv, .bool true])) w (w'.setCell ⟨g, t * 3 + 2, none⟩ cv') b := by
  obtain ⟨bad, hr⟩ := h.reach
  obtain ⟨h1, h2⟩ := h.put ht htv w1 hb1 hg hv
  refine ⟨tv, _, true, rfl, h1, ?_, h2⟩
  have := hr.inn rfl
  rw [hk _ _ _ _ hc] at this
  rw [plain_addC]
  exact this.ends rfl

theorem MSt.unknown (h : MSt w wr b 1 tv ts p t cnt) (hc : cnt ≠ 0) (hp : p < b.length) (h1 : (b.getD p 0).toNat ≠ 1) (h2 : (b.getD p 0).toNat ≠ 2) (h3 : (b.getD p 0).toNat ≠ 3) : GotModel (.returned (.tuple #[tv, .bool true])) w wr b := by
  obtain ⟨bad, hr⟩ := h.reach
  refine ⟨tv, ts, true, rfl, h.tabs, ?_, h.below⟩
  have := hr.inn rfl
  unfold stepIn at this
  simp only [if_neg hc, if_neg (show ¬ b.length ≤ p by omega), if_neg h1, if_neg h2, if_neg h3] at this
  cases hf : fieldAt b (p + 1) with
  | none => simp only [hf] at this; exact this.ends rfl
  | some f => simp only [hf] at this; exact this.ends rfl
end

/-! ### One entry -/
section
variable {b : List UInt8} {p : Nat}
theorem del_takes {s e : Nat} (hp : p < b.length) (hk : (b.getD p 0).toNat = 2) (hf : fieldAt b (p + 1) = some (s, e)) : TakesC b p ⟨sub b s e, none, true⟩ e := fun ts t cnt bad hc => by
  unfold stepIn
  simp only [if_neg hc, if_neg (show ¬ b.length ≤ p by omega), hk, hf]
  rfl
theorem del_ends (hp : p < b.length) (hk : (b.getD p 0).toNat = 2) (hf : fieldAt b (p + 1) = none) : EndsC b p ⟨[], none, true⟩ := fun ts t cnt bad hc => by
  unfold stepIn
  simp only [if_neg hc, if_neg (show ¬ b.length ≤ p by omega), hk, hf]
  rfl
theorem put_takes {s e s2 e2 : Nat} (hp : p < b.length) (hk : (b.getD p 0).toNat = 1) (hf : fieldAt b (p + 1) = some (s, e)) (hv : fieldAt b e = some (s2, e2)) : TakesC b p ⟨sub b s e, some (sub b s2 e2), false⟩ e2 := fun ts t cnt bad hc => by
  unfold stepIn
  simp only [if_neg hc, if_neg (show ¬ b.length ≤ p by omega), hk, hf, hv]
  rfl
theorem put_ends {s e : Nat} (hp : p < b.length) (hk : (b.getD p 0).toNat = 1) (hf : fieldAt b (p + 1) = some (s, e)) (hv : fieldAt b e = none) : EndsC b p ⟨sub b s e, none, false⟩ := fun ts t cnt bad hc => by
  unfold stepIn
  simp only [if_neg hc, if_neg (show ¬ b.length ≤ p by omega), hk, hf, hv]
  rfl
theorem put_ends2 (hp : p < b.length) (hk : (b.getD p 0).toNat = 1) (hf : fieldAt b (p + 1) = none) : EndsC b p ⟨[], none, false⟩ := fun ts t cnt bad hc => by
  unfold stepIn
  simp only [if_neg hc, if_neg (show ¬ b.length ≤ p by omega), hk, hf]
  rfl
end
end Go.Proofs.Qxb6616086aFmt

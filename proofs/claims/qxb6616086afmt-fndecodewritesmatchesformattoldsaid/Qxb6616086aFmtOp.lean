import Derived.Test.Qxb6616086aFmtSt
/-! WHAT THE WRITES DO TO THE TABLES. -/
namespace Go.Proofs.Qxb6616086aFmt
open Go.RowKit

section
variable {w w' : World} {B T s C : Nat} {tv tv' : Value} {ts : List MTab}

theorem grown_other {T' s' n' : Nat} {z f : Nat → Value} {v : Value} (hr : Rows w T' s' z f v n') (hg : w.grownBy w' v.ownBlock) {b : Nat} {c : Array Value} {t : TypeId} (hc : w.heap[b]? = some (.cells c t (0, 0))) (ht : t ≠ T') : w'.heap[b]? = w.heap[b]? := by
  refine hg.block b (Array.getElem?_eq_some_iff.1 hc).1 fun e => ?_
  obtain ⟨_, c', hc'⟩ := hr.lt e.symm
  rw [hc] at hc'
  simp only [Option.some.injEq, Obj.cells.injEq] at hc'
  exact ht hc'.2.1

/-- One table more, by append. -/
theorem TabsIs.addTab (h : TabsIs w B T s C tv ts) (hs : 0 < s) (hT : C ≠ T) (hT5 : 5 ≠ T) (m : MTab) (hm1 : m.cs = []) (hm2 : m.cv = .slice none 0 0)
    (hr : Rows w' T s tabZ (behind ts.length s (tabCell s ts) (tabF m)) tv' (ts.length + 1)) (hg : w.grownBy w' tv.ownBlock) (ho : (tv'.ownBlock = tv.ownBlock ∧ tv.ownBlock ≠ none) ∨ tv'.ownBlock = some w.heap.size) (hB : B ≤ w.heap.size) :
    TabsIs w' B T s C tv' (ts ++ [m]) := by
  have hl : (ts ++ [m]).length = ts.length + 1 := by simp
  have hat : ∀ i, i < ts.length → tabAt (ts ++ [m]) i = tabAt ts i := fun i hi => by rw [tabAt_snoc, if_neg (by omega)]
  have hlast : tabAt (ts ++ [m]) ts.length = m := by rw [tabAt_snoc, if_pos rfl]
  have hown : m.cv.ownBlock = none := by rw [hm2]; rfl
  refine ⟨?_, fun k hk => ?_, fun i hi => ?_, fun i hi k hk => ?_, fun i hi j hj => ?_, fun i j hi hj k hk hk' => ?_⟩
  · rw [hl]
    exact hr.congr fun i hi => tabCell_snoc hs ts m i hi
  · rcases ho with ⟨e, _⟩ | e
    · exact h.lo k (e ▸ hk)
    · rw [e] at hk
      cases hk
      exact hB
  · by_cases e : i = ts.length
    · subst e
      rw [hlast, hm1, hm2]
      exact Rows.nil _ _ _ _ _
    · have hi' : i < ts.length := by omega
      rw [hat i hi']
      exact (h.chg i hi').kept fun k hk => by
        obtain ⟨_, c, hc⟩ := (h.chg i hi').lt hk
        exact grown_other h.row hg hc hT
  · by_cases e : i = ts.length
    · subst e
      rw [hlast, hown] at hk
      cases hk
    · rw [hat i (by omega)] at hk
      exact h.clo i (by omega) k hk
  · by_cases e : i = ts.length
    · subst e
      rw [hlast, hm1] at hj
      simp at hj
    · have hi' : i < ts.length := by omega
      rw [hat i hi'] at hj ⊢
      exact (h.val i hi' j hj).kept fun b cs _ hc => grown_other h.row hg hc hT5
  · by_cases e : i = ts.length
    · subst e
      rw [hlast, hown] at hk
      cases hk
    · by_cases e' : j = ts.length
      · subst e'
        rw [hlast, hown] at hk'
        cases hk'
      · rw [hat i (by omega)] at hk
        rw [hat j (by omega)] at hk'
        exact h.apart i j (by omega) (by omega) k hk hk'

/-- The tables, but for what table t's changes hold. -/
structure TabsBut (w : World) (B T s C : Nat) (tv : Value) (ts : List MTab) (t : Nat) : Prop where
  row : Rows w T s tabZ (tabCell s ts) tv ts.length
  lo : ∀ k, tv.ownBlock = some k → B ≤ k
  chg : ∀ i, i < ts.length → i ≠ t → Rows w C 3 chgZ (chgCell (tabAt ts i).cs) (tabAt ts i).cv (tabAt ts i).cs.length
  clo : ∀ i, i < ts.length → ∀ k, (tabAt ts i).cv.ownBlock = some k → B ≤ k
  val : ∀ i, i < ts.length → ∀ j, j < (tabAt ts i).cs.length → ValIs w B (chgAt (tabAt ts i).cs j)
  apart : ∀ i j, i < ts.length → j < ts.length → ∀ k, (tabAt ts i).cv.ownBlock = some k → (tabAt ts j).cv.ownBlock = some k → i = j
  below : ∀ i, i < ts.length → ∀ k, (tabAt ts i).cv.ownBlock = some k → k < w.heap.size

theorem TabsIs.but (h : TabsIs w B T s C tv ts) (t : Nat) : TabsBut w B T s C tv ts t :=
  ⟨h.row, h.lo, fun i hi _ => h.chg i hi, h.clo, h.val, h.apart, fun i hi _ hk => ((h.chg i hi).lt hk).1⟩

/-- Behind an append onto table t's changes. -/
theorem TabsIs.grow (h : TabsIs w B T s C tv ts) (hT : T ≠ C) (h5 : 5 ≠ C) {t : Nat} (ht : t < ts.length) (hg : w.grownBy w' (tabAt ts t).cv.ownBlock) : TabsBut w' B T s C tv ts t where
  row := h.row.kept fun k e => by
    obtain ⟨_, c, hc⟩ := h.row.lt e
    exact grown_other (h.chg t ht) hg hc hT
  lo := h.lo
  chg := fun i hi hne => (h.chg i hi).kept fun k e => hg.block k ((h.chg i hi).lt e).1 fun q => hne (h.apart i t hi ht k e q.symm)
  clo := h.clo
  val := fun i hi j hj => (h.val i hi j hj).kept fun b cs _ hc => grown_other (h.chg t ht) hg hc h5
  apart := h.apart
  below := fun i hi k hk => Nat.lt_of_lt_of_le ((h.chg i hi).lt hk).1 hg.size

theorem TabsBut.of_below {t : Nat} (h : TabsBut w B T s C tv ts t) (hb : Below w.heap.size w w') : TabsBut w' B T s C tv ts t where
  row := h.row.kept fun k e => hb.block k (h.row.lt e).1
  lo := h.lo
  chg := fun i hi hne => (h.chg i hi hne).kept fun k e => hb.block k ((h.chg i hi hne).lt e).1
  clo := h.clo
  val := fun i hi j hj => (h.val i hi j hj).kept fun b _ _ hc => hb.block b (Array.getElem?_eq_some_iff.1 hc).1
  apart := h.apart
  below := fun i hi k hk => Nat.lt_of_lt_of_le (h.below i hi k hk) hb.size

theorem Rows.at {z f : Nat → Value} {n : Nat} {v : Value} (h : Rows w T s z f v n) (hn : 0 < n) : ∃ g cap, v = .slice (some ⟨g, 0, none⟩) n cap ∧ n ≤ cap ∧ cap ≤ maxLen ∧ w.rowIs g T (cap * s) (fun i => if i < n * s then f i else z (i % s)) := by
  rcases h with ⟨_, q⟩ | h
  · omega
  · exact h

theorem tab_lt {n cap t s k : Nat} (ht : t < n) (hk : k < s) (hc : n ≤ cap) : t * s + k < n * s ∧ t * s + k < cap * s := by
  have h1 : (t + 1) * s ≤ n * s := Nat.mul_le_mul_right _ ht
  have h2 : n * s ≤ cap * s := Nat.mul_le_mul_right _ hc
  rw [Nat.add_mul, Nat.one_mul] at h1
  omega

theorem tab_div {t s k : Nat} (hk : k < s) : (t * s + k) / s = t ∧ (t * s + k) % s = k := by
  have hs : 0 < s := by omega
  constructor
  · rw [Nat.mul_comm, Nat.mul_add_div hs, Nat.div_eq_of_lt hk, Nat.add_zero]
  · rw [Nat.mul_comm, Nat.mul_add_mod, Nat.mod_eq_of_lt hk]

/-- A cell of table t. -/
theorem TabsIs.cell (h : TabsIs w B T s C tv ts) {g n cap : Nat} (htv : tv = .slice (some ⟨g, 0, none⟩) n cap) {t k : Nat} (ht : t < ts.length) (hk : k < s) : w.cell? ⟨g, t * s + k, none⟩ = some (tabF (tabAt ts t) k) ∧ w.frozen? ⟨g, t * s + k, none⟩ = false := by
  obtain ⟨g', cap', e, hc, _, hrow⟩ := h.row.at (by omega)
  rw [htv] at e
  simp only [Value.slice.injEq, Option.some.injEq, Addr.mk.injEq] at e
  obtain ⟨⟨rfl, _⟩, _, rfl⟩ := e
  have hlt := tab_lt ht hk hc
  have hd := tab_div (t := t) hk
  refine ⟨?_, hrow.frozen _⟩
  rw [hrow.cell hlt.2]
  simp only [if_pos hlt.1, tabCell, hd.1, hd.2]

/-- A store into table t's record. -/
theorem TabsBut.put {t : Nat} (h : TabsBut w B T s C tv ts t) (hT : C ≠ T) (hT5 : 5 ≠ T) (ht : t < ts.length) {g n cap : Nat} (htv : tv = .slice (some ⟨g, 0, none⟩) n cap) {k0 : Nat} (hk0 : k0 < s) (m : MTab) (v : Value)
    (hm : ∀ k, k < s → tabF m k = if k = k0 then v else tabF (tabAt ts t) k) (hc : Rows w C 3 chgZ (chgCell m.cs) m.cv m.cs.length) (hlo : ∀ k, m.cv.ownBlock = some k → B ≤ k)
    (hval : ∀ j, j < m.cs.length → ValIs w B (chgAt m.cs j)) (hap : ∀ i, i < ts.length → i ≠ t → ∀ k, (tabAt ts i).cv.ownBlock = some k → m.cv.ownBlock ≠ some k) :
    TabsIs (w.setCell ⟨g, t * s + k0, none⟩ v) B T s C tv (ts.set t m) := by
  obtain ⟨g', cap', e, hcap, hmx, hrow⟩ := h.row.at (by omega)
  rw [htv] at e
  simp only [Value.slice.injEq, Option.some.injEq, Addr.mk.injEq] at e
  obtain ⟨⟨rfl, _⟩, rfl, rfl⟩ := e
  have hl : (ts.set t m).length = ts.length := by simp
  have hat := fun j => tabAt_set ts t m j ht
  have keepC : ∀ (b : Nat) (c : Array Value) (tg : TypeId), w.heap[b]? = some (.cells c tg (0, 0)) → tg ≠ T → (w.setCell ⟨g, t * s + k0, none⟩ v).heap[b]? = w.heap[b]? := fun b c tg hb htg => by
    refine heap_setCell_other _ _ _ _ fun e => ?_
    have e' : b = g := e
    subst e'
    obtain ⟨c', hc', _⟩ := hrow
    rw [hb] at hc'
    simp only [Option.some.injEq, Obj.cells.injEq] at hc'
    exact htg hc'.2.1
  refine ⟨?_, h.lo, fun i hi => ?_, fun i hi k hk => ?_, fun i hi j hj => ?_, fun i j hi hj k hk hk' => ?_⟩
  · rw [hl, htv]
    refine .inr ⟨g, cap, rfl, hcap, hmx, (hrow.set (t * s + k0) v).congr fun i hi => ?_⟩
    have hlt := tab_lt ht hk0 hcap
    have hd := tab_div (t := t) hk0
    by_cases q : i < ts.length * s
    · simp only [if_pos q]
      unfold tabCell
      rw [hat]
      by_cases e1 : i / s = t
      · rw [if_pos e1, hm (i % s) (Nat.mod_lt _ (by omega))]
        by_cases e2 : i % s = k0
        · have : i = t * s + k0 := by
            have := Nat.div_add_mod i s
            rw [e1, e2, Nat.mul_comm] at this
            omega
          rw [if_pos this, if_pos e2]
        · rw [if_neg e2, if_neg (fun q2 => e2 (by rw [q2]; exact hd.2)), e1]
      · rw [if_neg e1, if_neg (fun q2 => e1 (by rw [q2]; exact hd.1))]
    · simp only [if_neg q]
      rw [if_neg (by omega)]
  · rw [hl] at hi
    rw [hat]
    by_cases e : i = t
    · rw [if_pos e]
      exact hc.kept fun k hk => by
        obtain ⟨_, c, hcc⟩ := hc.lt hk
        exact keepC k c C hcc hT
    · rw [if_neg e]
      exact (h.chg i hi e).kept fun k hk => by
        obtain ⟨_, c, hcc⟩ := (h.chg i hi e).lt hk
        exact keepC k c C hcc hT
  · rw [hl] at hi
    rw [hat] at hk
    by_cases e : i = t
    · rw [if_pos e] at hk
      exact hlo k hk
    · rw [if_neg e] at hk
      exact h.clo i hi k hk
  · rw [hl] at hi
    rw [hat] at hj ⊢
    by_cases e : i = t
    · rw [if_pos e] at hj ⊢
      exact (hval j hj).kept fun b cs _ hcc => keepC b cs 5 hcc hT5
    · rw [if_neg e] at hj ⊢
      exact (h.val i hi j hj).kept fun b cs _ hcc => keepC b cs 5 hcc hT5
  · rw [hl] at hi hj
    rw [hat] at hk hk'
    by_cases e : i = t
    · by_cases e' : j = t
      · omega
      · rw [if_pos e] at hk
        rw [if_neg e'] at hk'
        exact absurd hk (hap j hj e' k hk')
    · by_cases e' : j = t
      · rw [if_neg e] at hk
        rw [if_pos e'] at hk'
        exact absurd hk' (hap i hi e k hk)
      · rw [if_neg e] at hk
        rw [if_neg e'] at hk'
        exact h.apart i j hi hj k hk hk'

/-- Table t is dropped. -/
theorem TabsIs.drop (h : TabsIs w B T s C tv ts) (hT : C ≠ T) (hT5 : 5 ≠ T) (hs : 1 < s) {t : Nat} (ht : t < ts.length) {g n cap : Nat} (htv : tv = .slice (some ⟨g, 0, none⟩) n cap) :
    TabsIs (w.setCell ⟨g, t * s + 1, none⟩ (.bool true)) B T s C tv (ts.set t { tabAt ts t with drop := true }) :=
  (h.but t).put hT hT5 ht htv hs { tabAt ts t with drop := true } (.bool true) (fun k _ => by
    unfold tabF
    by_cases e : k = 1
    · subst e; rfl
    · rw [if_neg e]
      by_cases e0 : k = 0
      · subst e0; rfl
      · simp [e, e0]) (h.chg t ht) (h.clo t ht) (h.val t ht) (fun i hi hne k hk q => hne (h.apart i t hi ht k hk q))

/-- Table t has one change more: appended in w', then stored. -/
theorem TabsBut.addChg {t : Nat} (h : TabsBut w' B T s C tv ts t) (hT : C ≠ T) (hT5 : 5 ≠ T) (hs : 2 < s) (ht : t < ts.length) {g n cap : Nat} (htv : tv = .slice (some ⟨g, 0, none⟩) n cap) (c : MChg) (cv' : Value)
    (hr : Rows w' C 3 chgZ (behind (tabAt ts t).cs.length 3 (chgCell (tabAt ts t).cs) (chgF c)) cv' ((tabAt ts t).cs.length + 1)) (hold : ∀ i, i < ts.length → i ≠ t → ∀ k, (tabAt ts i).cv.ownBlock = some k → cv'.ownBlock ≠ some k) (hlo : ∀ k, cv'.ownBlock = some k → B ≤ k) (hv : ValIs w' B c) :
    TabsIs (w'.setCell ⟨g, t * s + 2, none⟩ cv') B T s C tv (ts.set t { tabAt ts t with cv := cv', cs := (tabAt ts t).cs ++ [c] }) :=
  h.put hT hT5 ht htv hs { tabAt ts t with cv := cv', cs := (tabAt ts t).cs ++ [c] } cv' (fun k _ => by
    unfold tabF
    by_cases e : k = 2
    · subst e; rfl
    · rw [if_neg e]
      by_cases e0 : k = 0
      · subst e0; rfl
      · by_cases e1 : k = 1
        · subst e1; rfl
        · simp [e, e0, e1])
    (by
      show Rows w' C 3 chgZ (chgCell ((tabAt ts t).cs ++ [c])) cv' ((tabAt ts t).cs ++ [c]).length
      rw [List.length_append, List.length_singleton]
      exact hr.congr fun i hi => chgCell_snoc _ c i hi)
    hlo
    (fun j hj => by
      have hj' : j < ((tabAt ts t).cs ++ [c]).length := hj
      show ValIs w' B (chgAt ((tabAt ts t).cs ++ [c]) j)
      rw [chgAt_snoc]
      rw [List.length_append, List.length_singleton] at hj'
      by_cases e : j = (tabAt ts t).cs.length
      · rw [if_pos e]; exact hv
      · rw [if_neg e]; exact h.val t ht j (by omega))
    hold
end

/-! ### The plain view -/
theorem tabAt_pl (ts : List MTab) (t : Nat) : (plain ts).getD t tab0 = (tabAt ts t).pl := by
  unfold plain tabAt
  rw [List.getD_eq_getElem?_getD, List.getD_eq_getElem?_getD, List.getElem?_map]
  cases ts[t]? <;> rfl
theorem plain_drop (ts : List MTab) (t : Nat) : plain (ts.set t { tabAt ts t with drop := true }) = setDrop (plain ts) t := by
  unfold setDrop
  rw [tabAt_pl]
  unfold plain
  rw [List.map_set]
  rfl
theorem plain_addC (ts : List MTab) (t : Nat) (cv' : Value) (c : MChg) : plain (ts.set t { tabAt ts t with cv := cv', cs := (tabAt ts t).cs ++ [c] }) = addC (plain ts) t c.pl := by
  unfold addC
  rw [tabAt_pl]
  unfold plain
  rw [List.map_set]
  unfold MTab.pl
  simp only [List.map_append, List.map_cons, List.map_nil]
theorem plain_snoc (ts : List MTab) (m : MTab) : plain (ts ++ [m]) = plain ts ++ [m.pl] := by
  unfold plain
  rw [List.map_append]
  rfl
end Go.Proofs.Qxb6616086aFmt

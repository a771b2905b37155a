import Derived.Test.Qxb6616086aFmtSb
/-! TABLES IN MEMORY: one word for both sides (ZZTable, tableWrites), and what the writes do to it. -/
namespace Go.Proofs.Qxb6616086aFmt
open Go.RowKit

def strV (l : List UInt8) : Value := .string ⟨l.toArray⟩

/-- A change as it lies: its value's slice, and the bytes there. -/
structure MChg where
  key : List UInt8
  vv : Value
  val : Option (List UInt8)
  del : Bool
structure MTab where
  name : List UInt8
  drop : Bool
  cv : Value
  cs : List MChg

def chg0 : MChg := ⟨[], .slice none 0 0, none, false⟩
def mtab0 : MTab := ⟨[], false, .slice none 0 0, []⟩
def chgAt (cs : List MChg) (i : Nat) : MChg := cs.getD i chg0
def tabAt (ts : List MTab) (i : Nat) : MTab := ts.getD i mtab0
def chgF (c : MChg) (k : Nat) : Value := if k = 0 then strV c.key else if k = 1 then c.vv else .bool c.del
def tabF (m : MTab) (k : Nat) : Value := if k = 0 then strV m.name else if k = 1 then .bool m.drop else if k = 2 then m.cv else .map none
def chgCell (cs : List MChg) (i : Nat) : Value := chgF (chgAt cs (i / 3)) (i % 3)
def tabCell (s : Nat) (ts : List MTab) (i : Nat) : Value := tabF (tabAt ts (i / s)) (i % s)
def chgZ : Nat → Value := chgF chg0
def tabZ : Nat → Value := tabF mtab0

def MChg.pl (c : MChg) : PChg := ⟨c.key, c.val, c.del⟩
def MTab.pl (m : MTab) : PTab := ⟨m.name, m.drop, m.cs.map MChg.pl⟩
def plain (ts : List MTab) : List PTab := ts.map MTab.pl

/-- The bytes of a value, in a block of their own behind B. -/
def ValIs (w : World) (B : Nat) (c : MChg) : Prop :=
  match c.val with
  | none => c.vv = .slice none 0 0
  | some l => l.length ≤ 65536 ∧ ∃ g cap cs, c.vv = .slice (some ⟨g, 0, none⟩) l.length cap ∧ B ≤ g ∧ w.heap[g]? = some (.cells cs 5 (0, 0)) ∧ ∀ i, i < l.length → cs[i]? = some (byteV (l.getD i 0))

structure TabsIs (w : World) (B T s C : Nat) (tv : Value) (ts : List MTab) : Prop where
  row : Rows w T s tabZ (tabCell s ts) tv ts.length
  lo : ∀ k, tv.ownBlock = some k → B ≤ k
  chg : ∀ i, i < ts.length → Rows w C 3 chgZ (chgCell (tabAt ts i).cs) (tabAt ts i).cv (tabAt ts i).cs.length
  clo : ∀ i, i < ts.length → ∀ k, (tabAt ts i).cv.ownBlock = some k → B ≤ k
  val : ∀ i, i < ts.length → ∀ j, j < (tabAt ts i).cs.length → ValIs w B (chgAt (tabAt ts i).cs j)
  apart : ∀ i j, i < ts.length → j < ts.length → ∀ k, (tabAt ts i).cv.ownBlock = some k → (tabAt ts j).cv.ownBlock = some k → i = j

theorem TabsIs.nil (w : World) (B T s C : Nat) : TabsIs w B T s C (.slice none 0 0) [] :=
  ⟨Rows.nil _ _ _ _ _, fun k hk => by simp [Value.ownBlock] at hk, fun i hi => by simp at hi, fun i hi => by simp at hi, fun i hi => by simp at hi, fun i j hi => by simp at hi⟩

theorem ValIs.kept {w w' : World} {B : Nat} {c : MChg} (h : ValIs w B c) (hk : ∀ b cs, B ≤ b → w.heap[b]? = some (.cells cs 5 (0, 0)) → w'.heap[b]? = w.heap[b]?) : ValIs w' B c := by
  unfold ValIs at h ⊢
  split
  · next e => rw [e] at h; exact h
  · next l e =>
    rw [e] at h
    obtain ⟨h0, g, cap, cs, h1, h2, h3, h4⟩ := h
    exact ⟨h0, g, cap, cs, h1, h2, (hk g cs h2 h3).trans h3, h4⟩

section
variable {w w' : World} {B T s C : Nat} {tv : Value} {ts : List MTab}

/-- The blocks that tables lie in. -/
def TKeep (w w' : World) (B T C : Nat) : Prop := ∀ b c t, w.heap[b]? = some (.cells c t (0, 0)) → (t = T ∨ t = C ∨ (t = 5 ∧ B ≤ b)) → w'.heap[b]? = w.heap[b]?

theorem TabsIs.kept (h : TabsIs w B T s C tv ts) (hk : TKeep w w' B T C) : TabsIs w' B T s C tv ts where
  row := h.row.kept fun k e => by
    obtain ⟨_, c, hc⟩ := h.row.lt e
    exact hk k c T hc (.inl rfl)
  lo := h.lo
  chg := fun i hi => (h.chg i hi).kept fun k e => by
    obtain ⟨_, c, hc⟩ := (h.chg i hi).lt e
    exact hk k c C hc (.inr (.inl rfl))
  clo := h.clo
  val := fun i hi j hj => (h.val i hi j hj).kept fun b cs hb hc => hk b cs 5 hc (.inr (.inr ⟨rfl, hb⟩))
  apart := h.apart

theorem TKeep.of_below (hb : Below w.heap.size w w') : TKeep w w' B T C := fun b _ _ hc _ => hb.block b (Array.getElem?_eq_some_iff.1 hc).1
theorem TabsIs.of_below (h : TabsIs w B T s C tv ts) (hb : Below w.heap.size w w') : TabsIs w' B T s C tv ts := h.kept (TKeep.of_below hb)
/-- A store into a block of another make. -/
theorem TKeep.set {b : Nat} {c : Array Value} {t : TypeId} (hc : w.heap[b]? = some (.cells c t (0, 0))) (h1 : t ≠ T) (h2 : t ≠ C) (h3 : t = 5 → b < B) (o : Nat) (v : Value) : TKeep w (w.setCell ⟨b, o, none⟩ v) B T C := fun b' c' t' hc' ht' => by
  refine heap_setCell_other _ _ _ _ fun e => ?_
  have e' : b' = b := e
  subst e'
  rw [hc] at hc'
  simp only [Option.some.injEq, Obj.cells.injEq] at hc'
  obtain ⟨_, rfl, _⟩ := hc'
  rcases ht' with q | q | q
  · exact h1 q
  · exact h2 q
  · have := h3 q.1; omega

theorem tabAt_snoc (ts : List MTab) (m : MTab) (j : Nat) : tabAt (ts ++ [m]) j = if j = ts.length then m else tabAt ts j := by
  unfold tabAt
  rw [List.getD_eq_getElem?_getD, List.getD_eq_getElem?_getD]
  by_cases h : j < ts.length
  · rw [if_neg (by omega), List.getElem?_append_left h]
  · by_cases e : j = ts.length
    · subst e; simp
    · rw [if_neg e, List.getElem?_eq_none (by simp; omega), List.getElem?_eq_none (by omega)]
theorem chgAt_snoc (cs : List MChg) (m : MChg) (j : Nat) : chgAt (cs ++ [m]) j = if j = cs.length then m else chgAt cs j := by
  unfold chgAt
  rw [List.getD_eq_getElem?_getD, List.getD_eq_getElem?_getD]
  by_cases h : j < cs.length
  · rw [if_neg (by omega), List.getElem?_append_left h]
  · by_cases e : j = cs.length
    · subst e; simp
    · rw [if_neg e, List.getElem?_eq_none (by simp; omega), List.getElem?_eq_none (by omega)]
theorem tabAt_set (ts : List MTab) (t : Nat) (m : MTab) (j : Nat) (ht : t < ts.length) : tabAt (ts.set t m) j = if j = t then m else tabAt ts j := by
  unfold tabAt
  rw [List.getD_eq_getElem?_getD, List.getD_eq_getElem?_getD, List.getElem?_set]
  by_cases e : t = j
  · subst e; simp [ht]
  · rw [if_neg e, if_neg (fun q => e q.symm)]

theorem tabCell_snoc (hs : 0 < s) (ts : List MTab) (m : MTab) (i : Nat) (hi : i < (ts.length + 1) * s) : behind ts.length s (tabCell s ts) (tabF m) i = tabCell s (ts ++ [m]) i := by
  unfold behind tabCell
  rw [tabAt_snoc]
  by_cases q : i < ts.length * s
  · rw [if_pos q, if_neg]
    have := (Nat.div_lt_iff_lt_mul hs).2 q
    omega
  · have hd : i / s = ts.length := by
      apply Nat.le_antisymm
      · have := (Nat.div_lt_iff_lt_mul hs).2 hi
        omega
      · exact (Nat.le_div_iff_mul_le hs).2 (by omega)
    rw [if_neg q, if_pos hd]
    congr 1
    have e := Nat.div_add_mod i s
    rw [hd, Nat.mul_comm] at e
    omega
theorem chgCell_snoc (cs : List MChg) (m : MChg) (i : Nat) (hi : i < (cs.length + 1) * 3) : behind cs.length 3 (chgCell cs) (chgF m) i = chgCell (cs ++ [m]) i := by
  unfold behind chgCell
  rw [chgAt_snoc]
  by_cases q : i < cs.length * 3
  · rw [if_pos q, if_neg (by omega)]
  · rw [if_neg q, if_pos (by omega)]
    congr 1
    omega
end
end Go.Proofs.Qxb6616086aFmt

import Derived.Test.Qxb6616487aSmall
import Derived.Deep.RegionHeld
import Derived.Deep.DeepCutAuto
/-! THE WALK of buildVersions. -/
namespace Go.Proofs.Qxb6616487a
open Go.RowKit

def wrCell (B : Pairs) (ds : List Nat) (j : Nat) : Value :=
  match ds[j]? with
  | some d => .slice (some ⟨d, 0, none⟩) (lenAt B j) (lenAt B j)
  | none => .slice none 0 0
def ptrCell (vs : List Ver) (k : Nat) : Value :=
  match vs[k]? with
  | some v => .pointer (some ⟨v.p, 0, none⟩)
  | none => .pointer none

/-- A list of versions made of row i of B: each with its writer. -/
structure Made (w : World) (B : Pairs) (i : Nat) (vs : List Ver) : Prop where
  each : ∀ k, k < vs.length → (vs.getD k ⟨0, 0, 0⟩).ts = tsAt B i k ∧ (vs.getD k ⟨0, 0, 0⟩).rts = rtsAt B i k ∧ Txn w (vs.getD k ⟨0, 0, 0⟩).p (tsAt B i k)

/-- What buildVersions has laid when it comes to block 'done.length'. -/
structure BSt (w wr : World) (bV bW n : Nat) (B : Pairs) (done : List Blk) (ds : List Nat) : Prop where
  below : Below w.heap.size w wr
  lo : w.heap.size ≤ bV ∧ w.heap.size ≤ bW
  ln : done.length = ds.length
  out : wr.rowIs bV 91 n (outCell done)
  wrs : wr.rowIs bW 73 n (wrCell B ds)
  rows : ∀ j, j < done.length → w.heap.size ≤ (blk done j).c ∧ wr.rowIs (blk done j).c 93 (2 * (blk done j).cap) (blkCell (blk done j).vs) ∧ (blk done j).cap = lenAt B j ∧ lenB done j = lenAt B j ∧ Made wr B j (blk done j).vs
  wrows : ∀ j, j < done.length → w.heap.size ≤ ds.getD j 0 ∧ wr.rowIs (ds.getD j 0) 38 (lenAt B j) (ptrCell (blk done j).vs)
  dist : ∀ j j', j < done.length → j' < done.length → (blk done j).c = (blk done j').c → j = j'

theorem row_ne {w : World} {b b' : Nat} {t t' : TypeId} {n n' : Nat} {f f' : Nat → Value} (h : w.rowIs b t n f) (h' : w.rowIs b' t' n' f') (ht : t ≠ t') : b ≠ b' := by
  rintro rfl
  obtain ⟨c, h1, _⟩ := h
  obtain ⟨c', h2, _⟩ := h'
  rw [h1] at h2
  simp only [Option.some.injEq, Obj.cells.injEq] at h2
  exact ht h2.2.1

theorem Made.of_below {w w' : World} {B : Pairs} {i : Nat} {vs : List Ver} (h : Made w B i vs) (hb : Below w.heap.size w w') : Made w' B i vs :=
  ⟨fun k hk => ⟨(h.each k hk).1, (h.each k hk).2.1, (h.each k hk).2.2.of_block (hb.block _ (h.each k hk).2.2.lt)⟩⟩
theorem Made.of_set {w : World} {B : Pairs} {i : Nat} {vs : List Ver} (h : Made w B i vs) {b t n : Nat} {f : Nat → Value} (hr : w.rowIs b t n f) (ht : t ≠ 83) (o : Nat) (v : Value) : Made (w.setCell ⟨b, o, none⟩ v) B i vs :=
  ⟨fun k hk => ⟨(h.each k hk).1, (h.each k hk).2.1, (h.each k hk).2.2.of_block (heap_setCell_other _ _ _ _ (by
    obtain ⟨cs, h1, _⟩ := (h.each k hk).2.2
    obtain ⟨c, h2, _⟩ := hr
    intro e
    have e' : (vs.getD k ⟨0, 0, 0⟩).p = b := e
    rw [e', h2] at h1
    simp only [Option.some.injEq, Obj.cells.injEq] at h1
    exact ht h1.2.1))⟩⟩

section
variable {w wr w' : World} {bV bW n : Nat} {B : Pairs} {done : List Blk} {ds : List Nat}
theorem BSt.of_below (h : BSt w wr bV bW n B done ds) (hb : Below wr.heap.size wr w') : BSt w w' bV bW n B done ds where
  below := h.below.trans (hb.mono h.below.size)
  lo := h.lo
  ln := h.ln
  out := h.out.of_block (hb.block _ h.out.lt)
  wrs := h.wrs.of_block (hb.block _ h.wrs.lt)
  rows := fun j hj => ⟨(h.rows j hj).1, (h.rows j hj).2.1.of_block (hb.block _ (h.rows j hj).2.1.lt), (h.rows j hj).2.2.1, (h.rows j hj).2.2.2.1, (h.rows j hj).2.2.2.2.of_below hb⟩
  wrows := fun j hj => ⟨(h.wrows j hj).1, (h.wrows j hj).2.of_block (hb.block _ (h.wrows j hj).2.lt)⟩
  dist := h.dist

theorem blk_snoc (done : List Blk) (X : Blk) (j : Nat) : blk (done ++ [X]) j = if j = done.length then X else blk done j := by
  unfold blk
  rw [List.getD_eq_getElem?_getD, List.getD_eq_getElem?_getD]
  by_cases h : j < done.length
  · rw [if_neg (by omega), List.getElem?_append_left h]
  · by_cases e : j = done.length
    · subst e; simp
    · rw [if_neg e, List.getElem?_eq_none (by simp; omega), List.getElem?_eq_none (by omega)]
theorem outCell_snoc (done : List Blk) (X : Blk) (j : Nat) : (if j = done.length then .slice (some ⟨X.c, 0, none⟩) X.vs.length X.cap else outCell done j) = outCell (done ++ [X]) j := by
  unfold outCell
  by_cases h : j < done.length
  · rw [if_neg (by omega), List.getElem?_append_left h]
  · by_cases e : j = done.length
    · subst e; simp
    · rw [if_neg e, List.getElem?_eq_none (by omega), List.getElem?_eq_none (by simp; omega)]
theorem wrCell_snoc (B : Pairs) (ds : List Nat) (d j : Nat) : (if j = ds.length then .slice (some ⟨d, 0, none⟩) (lenAt B ds.length) (lenAt B ds.length) else wrCell B ds j) = wrCell B (ds ++ [d]) j := by
  unfold wrCell
  by_cases h : j < ds.length
  · rw [if_neg (by omega), List.getElem?_append_left h]
  · by_cases e : j = ds.length
    · subst e; simp
    · rw [if_neg e, List.getElem?_eq_none (by omega), List.getElem?_eq_none (by simp; omega)]

/-- One block more: its arrays have been laid and filled, and stored into the two outer arrays. -/
theorem BSt.push (h : BSt w wr bV bW n B done ds) (hb : Below wr.heap.size wr w') (c d : Nat) (vs : List Ver) (hc : wr.heap.size ≤ c) (hd : wr.heap.size ≤ d)
    (hl : vs.length = lenAt B done.length) (hr : w'.rowIs c 93 (2 * lenAt B done.length) (blkCell vs)) (hr2 : w'.rowIs d 38 (lenAt B done.length) (ptrCell vs)) (hm : Made w' B done.length vs) :
    BSt w ((w'.setCell ⟨bV, done.length, none⟩ (.slice (some ⟨c, 0, none⟩) (lenAt B done.length) (lenAt B done.length))).setCell ⟨bW, done.length, none⟩ (.slice (some ⟨d, 0, none⟩) (lenAt B done.length) (lenAt B done.length))) bV bW n B (done ++ [⟨c, lenAt B done.length, vs⟩]) (ds ++ [d]) := by
  have h1 := h.of_below hb
  have n1 : bV ≠ bW := row_ne h1.out h1.wrs (by decide)
  obtain ⟨X, hX⟩ : ∃ X : Blk, X = ⟨c, lenAt B done.length, vs⟩ := ⟨_, rfl⟩
  have hXc : X.c = c := by rw [hX]
  have hXcap : X.cap = lenAt B done.length := by rw [hX]
  have hXv : X.vs = vs := by rw [hX]
  rw [← hX]
  have hbk := blk_snoc done X
  have oV : (w'.setCell ⟨bV, done.length, none⟩ (.slice (some ⟨c, 0, none⟩) (lenAt B done.length) (lenAt B done.length))).rowIs bV 91 n (outCell (done ++ [X])) :=
    (h1.out.set done.length _).congr (fun j _ => by rw [← outCell_snoc done X j, hXc, hXcap, hXv, hl])
  have w1 : (w'.setCell ⟨bV, done.length, none⟩ (.slice (some ⟨c, 0, none⟩) (lenAt B done.length) (lenAt B done.length))).rowIs bW 73 n (wrCell B ds) := h1.wrs.setOther (fun q => n1 q.symm) _
  have two : ∀ {b t m : Nat} {f : Nat → Value}, w'.rowIs b t m f → t ≠ 91 → t ≠ 73 → ((w'.setCell ⟨bV, done.length, none⟩ (.slice (some ⟨c, 0, none⟩) (lenAt B done.length) (lenAt B done.length))).setCell ⟨bW, done.length, none⟩ (.slice (some ⟨d, 0, none⟩) (lenAt B done.length) (lenAt B done.length))).rowIs b t m f := fun hx h91 h73 =>
    (hx.setOther (row_ne hx h1.out h91) _).setOther (row_ne hx h1.wrs h73) _
  refine ⟨(h1.below.setCell (by exact h.lo.1) _).setCell (by exact h.lo.2) _, h.lo, by simp [h.ln], oV.setOther n1 _, ?_, fun j hj => ?_, fun j hj => ?_, fun j j' hj hj' e => ?_⟩
  · refine (w1.set done.length _).congr (fun j _ => ?_)
    rw [← wrCell_snoc B ds d j, h.ln]
  · rw [List.length_append, List.length_singleton] at hj
    unfold lenB
    rw [hbk j]
    by_cases e : j = done.length
    · subst e
      rw [if_pos rfl, hXc, hXcap, hXv]
      exact ⟨by have := h.below.size; omega, two hr (by decide) (by decide), rfl, hl, (hm.of_set h1.out (by decide) _ _).of_set w1 (by decide) _ _⟩
    · rw [if_neg e]
      have h2 := h1.rows j (by omega)
      exact ⟨h2.1, two h2.2.1 (by decide) (by decide), h2.2.2.1, h2.2.2.2.1, (h2.2.2.2.2.of_set h1.out (by decide) _ _).of_set w1 (by decide) _ _⟩
  · rw [List.length_append, List.length_singleton] at hj
    rw [hbk j]
    by_cases e : j = done.length
    · subst e
      have e2 : (ds ++ [d]).getD done.length 0 = d := by rw [h.ln]; simp
      rw [if_pos rfl, hXv, e2]
      exact ⟨by have := h.below.size; omega, two hr2 (by decide) (by decide)⟩
    · have e2 : (ds ++ [d]).getD j 0 = ds.getD j 0 := by
        rw [List.getD_eq_getElem?_getD, List.getD_eq_getElem?_getD, List.getElem?_append_left (by rw [← h.ln]; omega)]
      rw [if_neg e, e2]
      have h2 := h1.wrows j (by omega)
      exact ⟨h2.1, two h2.2 (by decide) (by decide)⟩
  · rw [List.length_append, List.length_singleton] at hj hj'
    rw [hbk j, hbk j'] at e
    by_cases e1 : j = done.length
    · by_cases e2 : j' = done.length
      · omega
      · rw [if_pos e1, if_neg e2, hXc] at e
        have := (h.rows j' (by omega)).2.1.lt
        omega
    · by_cases e2 : j' = done.length
      · rw [if_neg e1, if_pos e2, hXc] at e
        have := (h.rows j (by omega)).2.1.lt
        omega
      · rw [if_neg e1, if_neg e2] at e
        exact h.dist j j' (by omega) (by omega) e
end
end Go.Proofs.Qxb6616487a

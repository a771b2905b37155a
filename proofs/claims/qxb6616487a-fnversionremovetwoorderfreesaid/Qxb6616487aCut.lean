import Derived.Test.Qxb6616487aDel
import Derived.Deep.RegionHeld
/-! THE WALK of remove. -/
namespace Go.Proofs.Qxb6616487a
open Go.RowKit

/-- What the list holds behind the removal of version i of block b. -/
def rem (bs : List Blk) (b i : Nat) : List Blk := if lenB bs b = 1 then bs.eraseIdx b else bs.set b ⟨(blk bs b).c, (blk bs b).cap, (blk bs b).vs.eraseIdx i⟩

/-- Nothing that was there turns, but for the blocks S. -/
structure Kept (S : Nat → Prop) (w w' : World) : Prop where
  os : w'.os = w.os
  tape : w'.tape = w.tape
  output : w'.output = w.output
  size : w.heap.size ≤ w'.heap.size
  block : ∀ k, k < w.heap.size → ¬ S k → w'.heap[k]? = w.heap[k]?

theorem Kept.trans {S : Nat → Prop} {a b c : World} (h : Kept S a b) (k : Kept S b c) : Kept S a c :=
  ⟨k.os.trans h.os, k.tape.trans h.tape, k.output.trans h.output, Nat.le_trans h.size k.size, fun x hx hs => (k.block x (by have := h.size; omega) hs).trans (h.block x hx hs)⟩
theorem Kept.mono {S S' : Nat → Prop} {a b : World} (h : Kept S a b) (hs : ∀ k, S k → S' k) : Kept S' a b := ⟨h.os, h.tape, h.output, h.size, fun x hx hn => h.block x hx (fun q => hn (hs x q))⟩
theorem Kept.of_below {S : Nat → Prop} {a b : World} (h : Below a.heap.size a b) : Kept S a b := ⟨h.os, h.tape, h.output, h.size, fun x hx _ => h.block x hx⟩
theorem Kept.of_grown {S : Nat → Prop} {a b : World} {c : Nat} (h : a.grownBy b (some c)) (hc : S c) : Kept S a b := ⟨h.os, h.tape, h.output, h.size, fun x hx hn => h.block x hx (fun e => hn (by cases e; exact hc))⟩
theorem Kept.drew {S : Nat → Prop} {a : World} : Kept S a a.drew := ⟨rfl, rfl, rfl, Nat.le_refl _, fun _ _ _ => rfl⟩
theorem Kept.set {S : Nat → Prop} {a b : World} (h : Kept S a b) {p : Addr} (hp : S p.block) (v : Value) : Kept S a (b.setCell p v) :=
  ⟨h.os, h.tape, h.output, by simpa using h.size, fun x hx hn => (heap_setCell_other _ _ _ _ (fun e => hn (by rw [e]; exact hp))).trans (h.block x hx hn)⟩

theorem blk_set (bs : List Blk) (b : Nat) (X : Blk) (hb : b < bs.length) (j : Nat) : blk (bs.set b X) j = if j = b then X else blk bs j := by
  unfold blk
  rw [List.getD_eq_getElem?_getD, List.getD_eq_getElem?_getD, List.getElem?_set]
  by_cases h : b = j
  · subst h; simp [hb]
  · rw [if_neg h, if_neg (fun e => h e.symm)]
theorem blk_erase (bs : List Blk) (b j : Nat) : blk (bs.eraseIdx b) j = if j < b then blk bs j else blk bs (j + 1) := by
  unfold blk
  rw [List.getD_eq_getElem?_getD, List.getElem?_eraseIdx]
  split <;> simp

/-- The state behind the cut of one version out of block b, the block not emptied or not yet dropped: but for 'it is not empty'. -/
theorem VSt.cut {w w' : World} {L bV capV : Nat} {bs : List Blk} {b i : Nat} (h : VSt w L bV capV bs) (hb : b < bs.length) (hi : i < lenB bs b)
    (hk : ∀ g, g < w.heap.size → g ≠ (blk bs b).c → g ≠ bV → w'.heap[g]? = w.heap[g]?)
    (hr : w'.rowIs (blk bs b).c 93 (2 * (blk bs b).cap) (blkCell ((blk bs b).vs.eraseIdx i)))
    (ho : w'.rowIs bV 91 capV (fun j => if j = b then .slice (some ⟨(blk bs b).c, 0, none⟩) (lenB bs b - 1) (blk bs b).cap else outCell bs j)) :
    w'.rowIs L 97 1 (fun _ => .slice (some ⟨bV, 0, none⟩) bs.length capV) ∧
    w'.rowIs bV 91 capV (outCell (bs.set b ⟨(blk bs b).c, (blk bs b).cap, (blk bs b).vs.eraseIdx i⟩)) ∧
    (1 < lenB bs b → VSt w' L bV capV (bs.set b ⟨(blk bs b).c, (blk bs b).cap, (blk bs b).vs.eraseIdx i⟩)) := by
  obtain ⟨X, hX⟩ : ∃ X : Blk, X = ⟨(blk bs b).c, (blk bs b).cap, (blk bs b).vs.eraseIdx i⟩ := ⟨_, rfl⟩
  have hXc : X.c = (blk bs b).c := by rw [hX]
  have hXcap : X.cap = (blk bs b).cap := by rw [hX]
  have hXv : X.vs = (blk bs b).vs.eraseIdx i := by rw [hX]
  have hXl : X.vs.length = lenB bs b - 1 := by rw [hXv, List.length_eraseIdx, if_pos (by exact hi)]; rfl
  rw [← hX]
  have hlist : w'.rowIs L 97 1 (fun _ => .slice (some ⟨bV, 0, none⟩) bs.length capV) := h.list.of_block (hk _ h.list.lt (fun e => (h.far.2 b hb).1 e.symm) h.far.1)
  have hout : w'.rowIs bV 91 capV (outCell (bs.set b X)) := ho.congr (fun j _ => by
    unfold outCell
    rw [List.getElem?_set]
    by_cases e : b = j
    · subst e; simp [hb, hXl, hXc, hXcap]
    · rw [if_neg (fun q => e q.symm), if_neg e])
  refine ⟨hlist, hout, fun h1 => ?_⟩
  have hbk := blk_set bs b X hb
  have hln : ∀ j, lenB (bs.set b X) j = if j = b then lenB bs b - 1 else lenB bs j := fun j => by
    unfold lenB
    rw [hbk j]
    by_cases e : j = b
    · rw [if_pos e, if_pos e, hXl]; rfl
    · rw [if_neg e, if_neg e]
  have hcc : ∀ j, (blk (bs.set b X) j).c = (blk bs j).c := fun j => by
    rw [hbk j]
    by_cases e : j = b
    · rw [if_pos e, hXc, e]
    · rw [if_neg e]
  have hown : ∀ g, own L bV (bs.set b X) g → own L bV bs g := fun g hg => by
    rcases hg with hg | hg | ⟨j, hj, hg⟩
    · exact .inl hg
    · exact .inr (.inl hg)
    · exact .inr (.inr ⟨j, by simpa using hj, by rw [hg, hcc j]⟩)
  refine ⟨by simpa using hlist, hout, by simpa using h.cap, fun j hj => ?_, fun j k hj hk' => ?_, ⟨h.far.1, fun j hj => ?_⟩, fun j j' hj hj' e => ?_⟩
  · rw [List.length_set] at hj
    have h2 := h.rows j hj
    rw [hln j, hbk j]
    by_cases e : j = b
    · subst e
      rw [if_pos rfl, if_pos rfl, hXc, hXcap, hXv]
      exact ⟨hr, by omega, by omega, h2.2.2.2⟩
    · rw [if_neg e, if_neg e]
      exact ⟨h2.1.of_block (hk _ h2.1.lt (fun q => e (h.dist j b hj hb q)) (h.far.2 j hj).2), h2.2⟩
  · rw [List.length_set] at hj
    rw [hln j] at hk'
    have key : ∃ k', k' < lenB bs j ∧ ver (bs.set b X) j k = ver bs j k' := by
      unfold ver
      rw [hbk j]
      by_cases e : j = b
      · subst e
        rw [if_pos rfl] at hk' ⊢
        rw [hXv, List.getD_eq_getElem?_getD, List.getElem?_eraseIdx]
        by_cases e2 : k < i
        · exact ⟨k, by omega, by rw [if_pos e2, List.getD_eq_getElem?_getD]⟩
        · exact ⟨k + 1, by omega, by rw [if_neg e2, List.getD_eq_getElem?_getD]⟩
      · rw [if_neg e] at hk' ⊢
        exact ⟨k, hk', rfl⟩
    obtain ⟨k', hk2, ev⟩ := key
    rw [ev]
    have h3 := h.txn j k' hj hk2
    refine ⟨?_, fun q => h3.2.1 (hown _ q), h3.2.2⟩
    rw [World.cell?_of_block (w := w) (hk _ (block_lt_of_cell h3.1) (fun q => h3.2.1 (.inr (.inr ⟨b, hb, q⟩))) (fun q => h3.2.1 (.inr (.inl q))))]
    exact h3.1
  · rw [List.length_set] at hj
    rw [hcc j]
    exact h.far.2 j hj
  · rw [List.length_set] at hj hj'
    rw [hcc j, hcc j'] at e
    exact h.dist j j' hj hj' e

/-- The state behind the drop of block b out of the outer array. -/
theorem VSt.drop {w w' : World} {L bV capV : Nat} {bs : List Blk} {b : Nat} (h : VSt w L bV capV bs) (hb : b < bs.length)
    (hk : ∀ g, g < w.heap.size → g ≠ (blk bs b).c → g ≠ bV → g ≠ L → w'.heap[g]? = w.heap[g]?)
    (hl : w'.rowIs L 97 1 (fun _ => .slice (some ⟨bV, 0, none⟩) (bs.length - 1) capV)) (ho : w'.rowIs bV 91 capV (outCell (bs.eraseIdx b))) : VSt w' L bV capV (bs.eraseIdx b) := by
  have hlen : (bs.eraseIdx b).length = bs.length - 1 := by rw [List.length_eraseIdx, if_pos hb]
  have sh : ∀ j, j < bs.length - 1 → ∃ j', j' < bs.length ∧ j' ≠ b ∧ blk (bs.eraseIdx b) j = blk bs j' ∧ (j' = j ∧ j < b ∨ j' = j + 1 ∧ ¬ j < b) := fun j hj => by
    rw [blk_erase bs b j]
    by_cases e : j < b
    · exact ⟨j, by omega, by omega, by rw [if_pos e], .inl ⟨rfl, e⟩⟩
    · exact ⟨j + 1, by omega, by omega, by rw [if_neg e], .inr ⟨rfl, e⟩⟩
  have hown : ∀ g, own L bV (bs.eraseIdx b) g → own L bV bs g := fun g hg => by
    rcases hg with hg | hg | ⟨j, hj, hg⟩
    · exact .inl hg
    · exact .inr (.inl hg)
    · obtain ⟨j', h1, _, h3, _⟩ := sh j (by omega)
      exact .inr (.inr ⟨j', h1, by rw [hg, h3]⟩)
  refine ⟨by rw [hlen]; exact hl, ho, by have := h.cap; omega, fun j hj => ?_, fun j k hj hk' => ?_, ⟨h.far.1, fun j hj => ?_⟩, fun j j' hj hj' e => ?_⟩
  · obtain ⟨j', h1, h2, h3, _⟩ := sh j (by omega)
    have h4 := h.rows j' h1
    unfold lenB at h4 ⊢
    rw [h3]
    exact ⟨h4.1.of_block (hk _ h4.1.lt (fun q => h2 (h.dist j' b h1 hb q)) (h.far.2 j' h1).2 (h.far.2 j' h1).1), h4.2⟩
  · obtain ⟨j', h1, h2, h3, _⟩ := sh j (by omega)
    have h4 := h.txn j' k h1 (by unfold lenB at hk' ⊢; rw [← h3]; exact hk')
    have ev : ver (bs.eraseIdx b) j k = ver bs j' k := by unfold ver; rw [h3]
    rw [ev]
    refine ⟨?_, fun q => h4.2.1 (hown _ q), h4.2.2⟩
    rw [World.cell?_of_block (w := w) (hk _ (block_lt_of_cell h4.1) (fun q => h4.2.1 (.inr (.inr ⟨b, hb, q⟩))) (fun q => h4.2.1 (.inr (.inl q))) (fun q => h4.2.1 (.inl q)))]
    exact h4.1
  · obtain ⟨j', h1, h2, h3, _⟩ := sh j (by omega)
    rw [h3]
    exact h.far.2 j' h1
  · obtain ⟨x, x1, x2, x3, x4⟩ := sh j (by omega)
    obtain ⟨y, y1, y2, y3, y4⟩ := sh j' (by omega)
    rw [x3, y3] at e
    have := h.dist x y x1 y1 e
    omega
end Go.Proofs.Qxb6616487a

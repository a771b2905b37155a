import Derived.Test.Qxb6616487aSt
/-! THE PLAIN SIDE of 'agrees': lists with two timestamps struck out. -/
namespace Go.Proofs.Qxb6616487a

def keep (t1 t2 : Int) (v : Ver) : Bool := decide (v.ts ≠ t1) && decide (v.ts ≠ t2)
/-- The versions kept among the first k of block i. -/
def kl (t1 t2 : Int) (done : List Blk) (i k : Nat) : List Ver := ((blk done i).vs.take k).filter (keep t1 t2)
/-- The blocks with both struck out, the emptied ones dropped. -/
def strike (t1 t2 : Int) (l : List (List Ver)) : List (List Ver) := (l.map (fun x => x.filter (keep t1 t2))).filter (fun x => !x.isEmpty)
def cnt (t1 t2 : Int) (done : List Blk) (i : Nat) : Nat := (strike t1 t2 ((done.take i).map (·.vs))).length

section
variable {t1 t2 : Int} {done : List Blk}

theorem kl_full (i : Nat) : kl t1 t2 done i (lenB done i) = (blk done i).vs.filter (keep t1 t2) := by
  unfold kl lenB
  rw [List.take_of_length_le (Nat.le_refl _)]
theorem kl_zero (i : Nat) : kl t1 t2 done i 0 = [] := rfl
theorem kl_succ {i k : Nat} (h : k < lenB done i) : kl t1 t2 done i (k + 1) = if keep t1 t2 (ver done i k) then kl t1 t2 done i k ++ [ver done i k] else kl t1 t2 done i k := by
  have h' : k < (blk done i).vs.length := h
  have e : ver done i k = (blk done i).vs[k] := by simp [ver, h']
  unfold kl
  rw [List.take_succ_eq_append_getElem h', List.filter_append, e]
  by_cases hk : keep t1 t2 (blk done i).vs[k] = true
  · rw [if_pos hk]; simp [hk]
  · rw [if_neg hk]; simp [hk]
theorem kl_at {i k : Nat} (h : k < lenB done i) (hk : keep t1 t2 (ver done i k) = true) : (kl t1 t2 done i (lenB done i))[(kl t1 t2 done i k).length]? = some (ver done i k) := by
  have h' : k < (blk done i).vs.length := h
  have h1 : kl t1 t2 done i (lenB done i) = kl t1 t2 done i (k + 1) ++ ((blk done i).vs.drop (k + 1)).filter (keep t1 t2) := by
    rw [kl_full]
    unfold kl
    rw [← List.filter_append, List.take_append_drop]
  rw [h1, kl_succ h, if_pos hk]
  simp
theorem kl_le {i k : Nat} : (kl t1 t2 done i k).length ≤ k := by
  unfold kl
  exact Nat.le_trans (List.length_filter_le _ _) (List.length_take_le _ _)

theorem strike_append (a b : List (List Ver)) : strike t1 t2 (a ++ b) = strike t1 t2 a ++ strike t1 t2 b := by simp [strike]
theorem strike_one (x : List Ver) : strike t1 t2 [x] = if (x.filter (keep t1 t2)).isEmpty then [] else [x.filter (keep t1 t2)] := by
  unfold strike
  rw [List.map_singleton, List.filter_cons, List.filter_nil]
  by_cases h : (x.filter (keep t1 t2)).isEmpty = true
  · rw [if_pos h, if_neg (by rw [h]; decide)]
  · rw [if_neg h, if_pos (by rw [Bool.not_eq_true] at h; rw [h]; rfl)]
theorem take_map_succ {i : Nat} (h : i < done.length) : (done.take (i + 1)).map (·.vs) = (done.take i).map (·.vs) ++ [(blk done i).vs] := by
  have e : blk done i = done[i] := by simp [blk, h]
  rw [List.take_succ_eq_append_getElem h, List.map_append, e]
  rfl
theorem cnt_zero : cnt t1 t2 done 0 = 0 := rfl
theorem cnt_skip {i : Nat} (h : i < done.length) (h0 : kl t1 t2 done i (lenB done i) = []) : cnt t1 t2 done (i + 1) = cnt t1 t2 done i := by
  rw [kl_full] at h0
  unfold cnt
  rw [take_map_succ h, strike_append, strike_one, if_pos (by rw [h0]; rfl), List.append_nil]
theorem cnt_step {i : Nat} (h : i < done.length) (h0 : kl t1 t2 done i (lenB done i) ≠ []) : cnt t1 t2 done (i + 1) = cnt t1 t2 done i + 1 := by
  rw [kl_full] at h0
  unfold cnt
  rw [take_map_succ h, strike_append, strike_one, if_neg (by simpa using h0), List.length_append]
  rfl
theorem cnt_le (i : Nat) : cnt t1 t2 done i ≤ i := by
  unfold cnt strike
  refine Nat.le_trans (List.length_filter_le _ _) ?_
  simp
  omega
theorem strike_at {i : Nat} (h : i < done.length) (h0 : kl t1 t2 done i (lenB done i) ≠ []) : (strike t1 t2 (done.map (·.vs)))[cnt t1 t2 done i]? = some (kl t1 t2 done i (lenB done i)) := by
  have e : done.map (·.vs) = (done.take (i + 1)).map (·.vs) ++ (done.drop (i + 1)).map (·.vs) := by rw [← List.map_append, List.take_append_drop]
  rw [kl_full] at h0 ⊢
  rw [e, strike_append, take_map_succ h, strike_append, strike_one, if_neg (by simpa using h0)]
  unfold cnt
  simp
theorem cnt_end {i : Nat} (h : done.length ≤ i) : cnt t1 t2 done i = (strike t1 t2 (done.map (·.vs))).length := by
  unfold cnt
  rw [List.take_of_length_le h]

/-- What the list that is held against them holds at the place that belongs to block i. -/
theorem at_block {bs : List Blk} (hs : bs.map (·.vs) = strike t1 t2 (done.map (·.vs))) {i : Nat} (h : i < done.length) (h0 : kl t1 t2 done i (lenB done i) ≠ []) :
    cnt t1 t2 done i < bs.length ∧ (blk bs (cnt t1 t2 done i)).vs = kl t1 t2 done i (lenB done i) := by
  have h1 := strike_at h h0
  rw [← hs, List.getElem?_map] at h1
  have h2 : cnt t1 t2 done i < bs.length := by
    rcases Nat.lt_or_ge (cnt t1 t2 done i) bs.length with h3 | h3
    · exact h3
    · rw [List.getElem?_eq_none h3] at h1; cases h1
  refine ⟨h2, ?_⟩
  rw [List.getElem?_eq_getElem h2] at h1
  simp only [Option.map_some, Option.some.injEq] at h1
  simpa [blk, h2] using h1
theorem at_ver {bs : List Blk} (hs : bs.map (·.vs) = strike t1 t2 (done.map (·.vs))) {i k : Nat} (h : i < done.length) (hk : k < lenB done i) (hkeep : keep t1 t2 (ver done i k) = true) :
    (kl t1 t2 done i k).length < lenB bs (cnt t1 t2 done i) ∧ ver bs (cnt t1 t2 done i) (kl t1 t2 done i k).length = ver done i k := by
  have h1 := kl_at hk hkeep
  have h0 : kl t1 t2 done i (lenB done i) ≠ [] := by
    intro e; rw [e] at h1; simp at h1
  have h2 := (at_block hs h h0).2
  unfold lenB ver at *
  rw [h2]
  have h3 := (List.getElem?_eq_some_iff.1 h1).1
  refine ⟨h3, ?_⟩
  rw [List.getD_eq_getElem?_getD, h1]
  rfl
theorem bs_len {bs : List Blk} (hs : bs.map (·.vs) = strike t1 t2 (done.map (·.vs))) : cnt t1 t2 done done.length = bs.length := by
  rw [cnt_end (Nat.le_refl _), ← hs, List.length_map]
end
end Go.Proofs.Qxb6616487a

import Derived.Test.Qxb6616487aStrike
import Derived.Test.Qxb6616487aCut
/-! THE PLAIN SIDE of remove: where a timestamp lies in a sorted list; what its removal leaves. -/
namespace Go.Proofs.Qxb6616487a

/-- No block empty; the timestamps strictly rising over all. -/
structure Good (bs : List Blk) : Prop where
  some : ∀ j, j < bs.length → 0 < lenB bs j
  up : (bs.map (·.vs)).flatten.Pairwise (fun a b => a.ts < b.ts)

theorem map_at {bs : List Blk} {j : Nat} (h : j < bs.length) (h' : j < (bs.map (·.vs)).length) : (bs.map (·.vs))[j] = (blk bs j).vs := by
  simp [blk, h]
theorem ver_at {bs : List Blk} {j k : Nat} (h : k < (blk bs j).vs.length) : (blk bs j).vs[k] = ver bs j k := by
  simp [ver, h]

theorem Good.lex {bs : List Blk} (h : Good bs) {j k j' k' : Nat} (hj : j < bs.length) (hk : k < lenB bs j) (hj' : j' < bs.length) (hk' : k' < lenB bs j') (hlt : j < j' ∨ (j = j' ∧ k < k')) : (ver bs j k).ts < (ver bs j' k').ts := by
  have h1 := h.up
  rw [List.pairwise_flatten] at h1
  unfold lenB at hk hk'
  rcases hlt with hlt | ⟨rfl, hlt⟩
  · have h2 := List.pairwise_iff_getElem.1 h1.2 j j' (by simpa using hj) (by simpa using hj') hlt
    rw [map_at hj, map_at hj'] at h2
    exact h2 _ (by rw [← ver_at hk]; exact List.getElem_mem _) _ (by rw [← ver_at hk']; exact List.getElem_mem _)
  · have h2 := h1.1 (blk bs j).vs (List.mem_map.2 ⟨blk bs j, by simp [blk, hj], rfl⟩)
    have h3 := List.pairwise_iff_getElem.1 h2 k k' hk hk' hlt
    rw [ver_at hk, ver_at hk'] at h3
    exact h3

theorem Good.lies {bs : List Blk} (h : Good bs) {ts : Int} (hm : ts ∈ ((bs.map (·.vs)).flatten).map (·.ts)) : ∃ b i, Lies bs ts b i := by
  obtain ⟨v, hv, rfl⟩ := List.mem_map.1 hm
  obtain ⟨x, hx, hvx⟩ := List.mem_flatten.1 hv
  obtain ⟨b, hb, rfl⟩ := List.getElem_of_mem hx
  have hb' : b < bs.length := by simpa using hb
  rw [map_at hb'] at hvx
  obtain ⟨i, hi, rfl⟩ := List.getElem_of_mem hvx
  rw [ver_at hi]
  refine ⟨b, i, hb', hi, rfl, fun j hj => ?_, fun k hk => ?_, fun hle => ?_⟩
  · rcases Nat.lt_trichotomy j b with e | e | e
    · have := h.lex hj (h.some j hj) hb' hi (.inl e); constructor <;> intro <;> omega
    · subst e
      rcases Nat.eq_zero_or_pos i with e | e
      · subst e; constructor <;> intro <;> omega
      · have := h.lex hj (h.some j hj) hb' hi (.inr ⟨rfl, e⟩); constructor <;> intro <;> omega
    · have := h.lex hb' hi hj (h.some j hj) (.inl e); constructor <;> intro <;> omega
  · rcases Nat.lt_trichotomy k i with e | e | e
    · have := h.lex hb' hk hb' hi (.inr ⟨rfl, e⟩); constructor <;> intro <;> omega
    · subst e; constructor <;> intro <;> omega
    · have := h.lex hb' hi hb' hk (.inr ⟨rfl, e⟩); constructor <;> intro <;> omega
  · have hs := h.some (bs.length - 1) (by omega)
    have hi' : i < lenB bs b := hi
    by_cases e : b = bs.length - 1
    · refine ⟨e, ?_⟩
      by_cases e2 : i = lenB bs (bs.length - 1) - 1
      · exact e2
      · have h2 := h.lex hb' hi (show bs.length - 1 < bs.length by omega) (show lenB bs (bs.length - 1) - 1 < lenB bs (bs.length - 1) by omega) (.inr ⟨e, by rw [e] at hi'; omega⟩)
        omega
    · have h2 := h.lex hb' hi (show bs.length - 1 < bs.length by omega) (show lenB bs (bs.length - 1) - 1 < lenB bs (bs.length - 1) by omega) (.inl (by omega))
      omega

def not1 (t : Int) (v : Ver) : Bool := decide (v.ts ≠ t)
def str1 (t : Int) (l : List (List Ver)) : List (List Ver) := (l.map (fun x => x.filter (not1 t))).filter (fun x => !x.isEmpty)

theorem filter_erase {α : Type} (p : α → Bool) (x : List α) (i : Nat) (hi : i < x.length) (h : ∀ k (hk : k < x.length), p x[k] = true ↔ k ≠ i) : x.filter p = x.eraseIdx i := by
  rw [List.eraseIdx_eq_take_drop_succ]
  have e : x = x.take i ++ x[i] :: x.drop (i + 1) := by rw [← List.drop_eq_getElem_cons hi, List.take_append_drop]
  conv => lhs; rw [e]
  have hn : ¬ p x[i] = true := fun q => (h i hi).1 q rfl
  rw [List.filter_append, List.filter_cons, if_neg hn]
  congr 1
  · rw [List.filter_eq_self]
    intro a ha
    obtain ⟨k, hk, rfl⟩ := List.getElem_of_mem ha
    rw [List.length_take] at hk
    rw [List.getElem_take]
    exact (h k (by omega)).2 (by omega)
  · rw [List.filter_eq_self]
    intro a ha
    obtain ⟨k, hk, rfl⟩ := List.getElem_of_mem ha
    rw [List.length_drop] at hk
    rw [List.getElem_drop]
    exact (h (i + 1 + k) (by omega)).2 (by omega)

theorem rem_str1 {bs : List Blk} (h : Good bs) {ts : Int} {b i : Nat} (hl : Lies bs ts b i) : (rem bs b i).map (·.vs) = str1 ts (bs.map (·.vs)) := by
  have hb := hl.hb
  have hi := hl.hi
  have uniq : ∀ j k, j < bs.length → k < lenB bs j → ((ver bs j k).ts = ts → j = b ∧ k = i) := fun j k hj hk e => by
    rcases Nat.lt_trichotomy j b with q | q | q
    · have := h.lex hj hk hb hi (.inl q); rw [hl.is] at this; omega
    · subst q
      rcases Nat.lt_trichotomy k i with r | r | r
      · have := h.lex hj hk hb hi (.inr ⟨rfl, r⟩); rw [hl.is] at this; omega
      · exact ⟨rfl, r⟩
      · have := h.lex hb hi hj hk (.inr ⟨rfl, r⟩); rw [hl.is] at this; omega
    · have := h.lex hb hi hj hk (.inl q); rw [hl.is] at this; omega
  have e1 : (bs.map (·.vs)).map (fun x => x.filter (not1 ts)) = (bs.map (·.vs)).set b ((blk bs b).vs.eraseIdx i) := by
    apply List.ext_getElem (by simp)
    intro j h1 h2
    have hj : j < bs.length := by simpa using h1
    rw [List.getElem_map, List.getElem_set, map_at hj]
    by_cases e : b = j
    · subst e
      rw [if_pos rfl]
      refine filter_erase _ _ i hi (fun k hk => ?_)
      rw [ver_at hk]
      unfold not1
      rw [decide_eq_true_iff]
      constructor
      · rintro q rfl; exact q hl.is
      · intro q q2; exact q (uniq b k hb hk q2).2
    · rw [if_neg e, List.filter_eq_self]
      intro v hv
      obtain ⟨k, hk, rfl⟩ := List.getElem_of_mem hv
      rw [ver_at hk]
      unfold not1
      rw [decide_eq_true_iff]
      exact fun q => e (uniq j k hj hk q).1.symm
  unfold str1
  rw [e1]
  have hne : ∀ j (hj : j < bs.length), ((blk bs j).vs).isEmpty = false := fun j hj => by
    have := h.some j hj
    unfold lenB at this
    cases hx : (blk bs j).vs with
    | nil => rw [hx] at this; simp at this
    | cons _ _ => rfl
  have hlen : ((blk bs b).vs.eraseIdx i).length = lenB bs b - 1 := by rw [List.length_eraseIdx, if_pos (by exact hi)]; rfl
  unfold rem
  by_cases h1 : lenB bs b = 1
  · rw [if_pos h1]
    have hnil : (blk bs b).vs.eraseIdx i = [] := List.length_eq_zero_iff.1 (by omega)
    rw [hnil, filter_erase _ _ b (by simpa using hb) (fun k hk => ?_), List.eraseIdx_set_eq]
    · rw [List.eraseIdx_eq_take_drop_succ, List.eraseIdx_eq_take_drop_succ, List.map_append, List.map_take, List.map_drop]
    · have hk' : k < bs.length := by simpa using hk
      rw [List.getElem_set]
      by_cases e : b = k
      · rw [if_pos e]; simp [e]
      · rw [if_neg e, map_at hk', hne k hk']
        simp; exact fun q => e q.symm
  · rw [if_neg h1, List.map_set]
    symm
    rw [List.filter_eq_self]
    intro x hx
    obtain ⟨k, hk, rfl⟩ := List.getElem_of_mem hx
    have hk' : k < bs.length := by simpa using hk
    rw [List.getElem_set]
    by_cases e : b = k
    · rw [if_pos e]
      have := h.some b hb
      cases hx : (blk bs b).vs.eraseIdx i with
      | nil => rw [hx] at hlen; simp at hlen; omega
      | cons _ _ => rfl
    · rw [if_neg e, map_at hk', hne k hk']
      rfl

theorem str1_flat (t : Int) : ∀ l : List (List Ver), (str1 t l).flatten = l.flatten.filter (not1 t)
  | [] => rfl
  | x :: l => by
    have ih := str1_flat t l
    unfold str1 at ih ⊢
    rw [List.map_cons, List.filter_cons, List.flatten_cons, List.filter_append, ← ih]
    by_cases hx : (x.filter (not1 t)).isEmpty = true
    · rw [if_neg (by rw [hx]; decide)]
      rw [List.isEmpty_iff.1 hx, List.nil_append]
    · rw [if_pos (by rw [Bool.not_eq_true] at hx; rw [hx]; rfl), List.flatten_cons]

theorem str1_two (t1 t2 : Int) : ∀ l : List (List Ver), str1 t2 (str1 t1 l) = strike t1 t2 l
  | [] => rfl
  | x :: l => by
    have ih := str1_two t1 t2 l
    have hf : (x.filter (not1 t1)).filter (not1 t2) = x.filter (keep t1 t2) := by
      rw [List.filter_filter]
      congr 1
      funext v
      unfold not1 keep
      rw [Bool.and_comm]
    unfold str1 strike at ih ⊢
    rw [List.map_cons, List.filter_cons, List.map_cons, List.filter_cons, ← ih]
    by_cases hx : (x.filter (not1 t1)).isEmpty = true
    · have hx2 : x.filter (keep t1 t2) = [] := by rw [← hf, List.isEmpty_iff.1 hx]; rfl
      rw [if_neg (by rw [hx]; decide), if_neg (by rw [hx2]; decide)]
    · rw [if_pos (by rw [Bool.not_eq_true] at hx; rw [hx]; rfl), List.map_cons, List.filter_cons, hf]

theorem strike_comm (t1 t2 : Int) (l : List (List Ver)) : strike t1 t2 l = strike t2 t1 l := by
  have e : keep t1 t2 = keep t2 t1 := by funext v; unfold keep; rw [Bool.and_comm]
  unfold strike
  rw [e]

/-- Behind one removal the list is as good as it was. -/
theorem Good.of_str1 {bs bs' : List Blk} (h : Good bs) {ts : Int} (he : bs'.map (·.vs) = str1 ts (bs.map (·.vs))) : Good bs' := by
  refine ⟨fun j hj => ?_, ?_⟩
  · have hm : (blk bs' j).vs ∈ bs'.map (·.vs) := List.mem_map.2 ⟨blk bs' j, by simp [blk, hj], rfl⟩
    rw [he] at hm
    unfold str1 at hm
    have := (List.mem_filter.1 hm).2
    unfold lenB
    cases hx : (blk bs' j).vs with
    | nil => rw [hx] at this; simp at this
    | cons _ _ => simp
  · rw [he, str1_flat]
    exact h.up.filter _
end Go.Proofs.Qxb6616487a

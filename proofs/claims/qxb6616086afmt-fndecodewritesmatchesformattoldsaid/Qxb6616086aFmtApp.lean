import Derived.Test.Qxb6616086aFmtProg
import Derived.ProofKit
import Derived.OwnWalk
import Derived.Below
import Derived.Deep.OwnRows
/-! ROWS OF STRUCTS: a slice of n elements of s cells each, the spare cells zero; the law on append. -/
namespace Go.Proofs.Qxb6616086aFmt
open Go.RowKit

/-- Slice v, of n elements of s cells each, lies at the head of a block of type T; cell i holds 'f i'; behind the elements the cells are zero. -/
def Rows (w : World) (T s : Nat) (z f : Nat → Value) (v : Value) (n : Nat) : Prop :=
  (v = .slice none 0 0 ∧ n = 0) ∨ ∃ g cap, v = .slice (some ⟨g, 0, none⟩) n cap ∧ n ≤ cap ∧ cap ≤ maxLen ∧ w.rowIs g T (cap * s) (fun i => if i < n * s then f i else z (i % s))

theorem Rows.nil (w : World) (T s : Nat) (z f : Nat → Value) : Rows w T s z f (.slice none 0 0) 0 := .inl ⟨rfl, rfl⟩

theorem Rows.congr {w : World} {T s : Nat} {z f f' : Nat → Value} {v : Value} {n : Nat} (h : Rows w T s z f v n) (e : ∀ i, i < n * s → f i = f' i) : Rows w T s z f' v n := by
  rcases h with h | ⟨g, cap, h1, h2, h3, h4⟩
  · exact .inl h
  · refine .inr ⟨g, cap, h1, h2, h3, h4.congr fun i _ => ?_⟩
    by_cases q : i < n * s
    · simp only [if_pos q, e i q]
    · simp only [if_neg q]

theorem Rows.kept {w w' : World} {T s : Nat} {z f : Nat → Value} {v : Value} {n : Nat} (h : Rows w T s z f v n) (e : ∀ k, v.ownBlock = some k → w'.heap[k]? = w.heap[k]?) : Rows w' T s z f v n := by
  rcases h with h | ⟨g, cap, h1, h2, h3, h4⟩
  · exact .inl h
  · exact .inr ⟨g, cap, h1, h2, h3, h4.of_block (e g (by rw [h1]; rfl))⟩

theorem Rows.lt {w : World} {T s : Nat} {z f : Nat → Value} {v : Value} {n : Nat} (h : Rows w T s z f v n) {k : Nat} (hk : v.ownBlock = some k) : k < w.heap.size ∧ ∃ c, w.heap[k]? = some (.cells c T (0, 0)) := by
  rcases h with ⟨rfl, _⟩ | ⟨g, cap, rfl, h2, h3, h4⟩
  · cases hk
  · have e : g = k := by simpa [Value.ownBlock] using hk
    subst e
    obtain ⟨c, hc, _⟩ := h4
    exact ⟨(Array.getElem?_eq_some_iff.1 hc).1, c, hc⟩

theorem zero_cell (z : Array Value) (s m i : Nat) (zf : Nat → Value) (hs : z.size = s) (hz : ∀ k, k < s → z[k]? = some (zf k)) (h0 : 0 < s) (hi : i < m * s) : (Builtin.zeroCells z m)[i]? = some (zf (i % s)) := by
  have hk := hz (i % s) (Nat.mod_lt _ h0)
  have hlt : i % s < z.size := by rw [hs]; exact Nat.mod_lt _ h0
  rw [Array.getElem?_eq_getElem hlt] at hk
  unfold Builtin.zeroCells
  rw [hs]
  simp only [Array.getElem?_map, Array.getElem?_range, if_pos hi, Option.map_some]
  congr 1
  rw [getElem!_pos z (i % s) hlt]
  exact Option.some.inj hk

theorem mod_shift (i n s : Nat) (h : n * s ≤ i) : (i - n * s) % s = i % s := by
  obtain ⟨d, rfl⟩ : ∃ d, i = d + n * s := ⟨i - n * s, by omega⟩
  rw [Nat.add_sub_cancel, Nat.add_mul_mod_self_right]

/-- What is appended behind n elements. -/
def behind (n s : Nat) (f g : Nat → Value) (i : Nat) : Value := if i < n * s then f i else g (i - n * s)

theorem listOf_get (m : Nat) (f : Nat → Value) (j : Nat) : ((List.range m).map f)[j]? = if j < m then some (f j) else none := by
  by_cases h : j < m
  · rw [if_pos h, List.getElem?_eq_getElem (by simpa using h)]; simp
  · rw [if_neg h, List.getElem?_eq_none (by simpa using h)]

section
variable {P : Program} (w : World)

theorem run_append_rows (t ty e : TypeId) (i : TypeInfo) (z : Value) (s bytes : Nat) (ht : P.underlying t = some (.slice e)) (hi : P.info? e = some i) (hz : i.zero = some z)
    (hsize : i.size = s) (hby : i.bytes = bytes) (hzs : z.cells.size = s) (hsz : 0 < s) (zf : Nat → Value) (hzf : ∀ k, k < s → z.cells[k]? = some (zf k))
    (v : Value) (n : Nat) (f : Nat → Value) (hr : Rows w e s zf f v n)
    (a : Addr) (c : Nat) (g1 : Nat → Value) (hnews : ∀ k, k < s → w.cell? (a.add k) = some (g1 k)) (h1 : ∀ k, k < s → (g1 k).oneCell' = true)
    (h63 : n + 1 ≤ maxLen) (hbytes : (n + 1) * bytes ≤ 140737488355328) :
    ∃ v' w', (Builtin.append_ #[t, t] ty #[v, .slice (some a) 1 c]).run P w = .ok v' w' ∧ Rows w' e s zf (behind n s f g1) v' (n + 1) ∧ w.grownBy w' v.ownBlock ∧
      ((v'.ownBlock = v.ownBlock ∧ v.ownBlock ≠ none) ∨ v'.ownBlock = some w.heap.size) ∧ v' ≠ .slice none 0 0 := by
  subst hsize
  subst hby
  have hsmall : n + 1 ≤ 9223372036854775807 := by simp only [maxLen] at h63; omega
  have e1 : (n + 1) * i.size = n * i.size + i.size := by rw [Nat.add_mul, Nat.one_mul]
  have hnl : ((List.range i.size).map g1).length = 1 * i.size := by simp
  have hnc : ∀ j u, ((List.range i.size).map g1)[j]? = some u → w.cell? (a.add j) = some u := fun j u hj => by
    rw [listOf_get] at hj
    by_cases q : j < i.size
    · rw [if_pos q] at hj
      rw [hnews j q, hj]
    · rw [if_neg q] at hj; cases hj
  have h1' : ∀ u ∈ (List.range i.size).map g1, u.oneCell' = true := fun u hu => by
    obtain ⟨k, hk, rfl⟩ := List.mem_map.1 hu
    exact h1 k (List.mem_range.1 hk)
  have grown : ∀ (old : Nat), old < n + 1 → ∀ (row : Option Nat),
      Rows (w.drew.alloc (.cells (((List.range (n * i.size)).map f).toArray ++ ((List.range i.size).map g1).toArray ++ Builtin.zeroCells z.cells (grownCap w (n + 1) old e - (n + 1))) e)) e i.size zf (behind n i.size f g1)
        (.slice (some ⟨w.heap.size, 0, none⟩) (n + 1) (grownCap w (n + 1) old e)) (n + 1) ∧
      w.grownBy (w.drew.alloc (.cells (((List.range (n * i.size)).map f).toArray ++ ((List.range i.size).map g1).toArray ++ Builtin.zeroCells z.cells (grownCap w (n + 1) old e - (n + 1))) e)) row := by
    intro old ho row
    have hge := grownCap_ge w (n + 1) old e
    have hcm : grownCap w (n + 1) old e ≤ maxLen := grownCap_le_maxLen w (n + 1) old e h63
    obtain ⟨C, hC⟩ : ∃ C, C = grownCap w (n + 1) old e := ⟨_, rfl⟩
    rw [← hC] at hge hcm ⊢
    have e2 : C * i.size = n * i.size + i.size + (C - (n + 1)) * i.size := by
      obtain ⟨d, rfl⟩ : ∃ d, C = n + 1 + d := ⟨C - (n + 1), by omega⟩
      rw [Nat.add_sub_cancel_left, Nat.add_mul, e1]
    refine ⟨.inr ⟨w.heap.size, C, rfl, hge, hcm, ?_⟩, ⟨rfl, rfl, rfl, by simp, fun k hk _ => heap_alloc_old w.drew _ k hk⟩⟩
    refine ⟨_, heap_alloc_new w.drew _, ?_, fun j hj => ?_⟩
    · simp only [Array.size_append, List.size_toArray, List.length_map, List.length_range, size_zeroCells, hzs]
      omega
    · by_cases q1 : j < n * i.size
      · rw [Array.getElem?_append_left (by simp; omega), Array.getElem?_append_left (by simp; omega), List.getElem?_toArray, listOf_get, if_pos q1]
        simp only [behind, if_pos q1, e1]
        rw [if_pos (by omega)]
      · by_cases q2 : j < n * i.size + i.size
        · rw [Array.getElem?_append_left (by simp; omega), Array.getElem?_append_right (by simp; omega), List.getElem?_toArray, listOf_get]
          simp only [List.size_toArray, List.length_map, List.length_range, behind, if_neg q1, e1]
          rw [if_pos (by omega), if_pos q2]
        · rw [Array.getElem?_append_right (by simp; omega)]
          simp only [Array.size_append, List.size_toArray, List.length_map, List.length_range]
          rw [zero_cell z.cells i.size (C - (n + 1)) (j - (n * i.size + i.size)) zf hzs hzf hsz (by omega)]
          simp only [e1]
          rw [if_neg q2, ← e1, mod_shift j (n + 1) i.size (by omega)]
  rcases hr with ⟨rfl, rfl⟩ | ⟨g, cap, rfl, hnc', hcm, hrow⟩
  · have hr := run_append_nil (P := P) w t ty e i z ht hi hz a 1 c ((List.range i.size).map g1) hnl hnc (by omega) (by omega) (by omega)
    have hgr := grown 0 (by omega) (Value.ownBlock (.slice none 0 0))
    simp only [Nat.zero_add, Nat.zero_mul, List.range_zero, List.map_nil, Array.empty_append] at hgr hr ⊢
    exact ⟨_, _, hr, hgr.1, hgr.2, .inr rfl, by simp⟩
  · obtain ⟨cur, hg, hsz', hcells⟩ := hrow
    by_cases hroom : n + 1 ≤ cap
    · have hcap : (n + 1) * i.size ≤ cap * i.size := Nat.mul_le_mul_right _ hroom
      have hfit : n * i.size + ((List.range i.size).map g1).length ≤ cur.size := by rw [hsz', List.length_map, List.length_range]; omega
      have hr := run_append_room (P := P) w t ty e i ht hi g n cap cur hg a 1 c _ hnl hnc h1' hroom hfit
      refine ⟨_, _, hr, .inr ⟨g, cap, rfl, hroom, hcm, ⟨_, setRow_heap w g cur _ e _ hg, ?_, fun j hj => ?_⟩⟩, ⟨rfl, rfl, rfl, by simp, fun k _ hk => setRow_other w g k _ (fun e => hk (by simp [Value.ownBlock, e]))⟩, .inl ⟨rfl, by simp [Value.ownBlock]⟩, by simp⟩
      · simp only [List.size_toArray, List.length_append, List.length_take, List.length_drop, Array.length_toList, List.length_map, List.length_range]
        omega
      · have hcj : cur[j]? = some (if j < n * i.size then f j else zf (j % i.size)) := hcells j hj
        rw [List.getElem?_toArray]
        simp only [List.length_map, List.length_range]
        have htl : (cur.toList.take (n * i.size)).length = n * i.size := by rw [List.length_take, Array.length_toList]; omega
        by_cases q1 : j < n * i.size
        · rw [List.append_assoc, List.getElem?_append_left (by omega), List.getElem?_take, if_pos q1, Array.getElem?_toList, hcj, if_pos q1, if_pos (by omega)]
          simp only [behind, if_pos q1]
        · by_cases q2 : j < n * i.size + i.size
          · rw [List.append_assoc, List.getElem?_append_right (by omega), List.getElem?_append_left (by simp; omega), listOf_get, htl, if_pos (by omega), if_pos (by omega)]
            simp only [behind, if_neg q1]
          · rw [List.getElem?_append_right (by simp; omega)]
            simp only [List.length_append, htl, List.length_map, List.length_range]
            rw [List.getElem?_drop, Array.getElem?_toList, show n * i.size + i.size + (j - (n * i.size + i.size)) = j by omega, hcj, if_neg q1, if_neg (by omega)]
    · have holds : ∀ j u, ((List.range (n * i.size)).map f)[j]? = some u → w.cell? ((⟨g, 0, none⟩ : Addr).add j) = some u := fun j u hj => by
        rw [listOf_get] at hj
        by_cases q : j < n * i.size
        · rw [if_pos q] at hj
          have hadd : (⟨g, 0, none⟩ : Addr).add j = ⟨g, j, none⟩ := by unfold Addr.add; split <;> simp_all
          have hle : n * i.size ≤ cap * i.size := Nat.mul_le_mul_right _ hnc'
          rw [hadd, cell_of_row w g j cur e (0, 0) hg, show cur[j]? = some (if j < n * i.size then f j else zf (j % i.size)) from hcells j (by omega), if_pos q, hj]
        · rw [if_neg q] at hj; cases hj
      have hr := run_append_grow (P := P) w t ty e i z ht hi hz ⟨g, 0, none⟩ n cap _ (by simp) holds a 1 c _ hnl hnc (by omega) (by omega) (growslice_fits (by omega) hbytes)
      have hgr := grown cap (by omega) (Value.ownBlock (.slice (some ⟨g, 0, none⟩) n cap))
      exact ⟨_, _, hr, hgr.1, hgr.2, .inr rfl, by simp⟩

end
end Go.Proofs.Qxb6616086aFmt

import Derived.Test.Qxb6616487aSt
import Derived.Deep.RegionLaw
import Derived.Lib.LazyBuf
import Derived.Lib.SliceRun
/-! slices.Delete of one element: of a block of versions, of the outer array. -/
namespace Go.Proofs.Qxb6616487a
open Go.RowKit

theorem info_size {t n : Nat} (h : (Try.prog.info? t).map (·.size) = some n) : ∃ i0, Try.prog.info? t = some i0 ∧ i0.size = n := by
  cases hq : Try.prog.info? t with
  | none => rw [hq] at h; cases h
  | some i => rw [hq] at h; exact ⟨i, rfl, by simpa using h⟩

theorem blkCell_one (vs : List Ver) (j : Nat) : (blkCell vs j).oneCell' = true := by
  unfold blkCell
  split <;> split <;> rfl

theorem grown_setCells {w : World} {b : Nat} : ∀ (vs : List Value) (o : Nat) (w' : World), w.grownBy w' (some b) → w.grownBy (w'.setCells b o vs) (some b)
  | [], _, _, h => h
  | v :: r, o, w', h => grown_setCells r (o + 1) _ ⟨h.os, h.tape, h.output, by simpa using h.size, fun k hk hne => (heap_setCell_other _ _ _ _ (fun e => hne (by rw [e]))).trans (h.block k hk hne)⟩

theorem blkCell_low (vs : List Ver) (i j : Nat) (h : j / 2 < i) : blkCell vs j = blkCell (vs.eraseIdx i) j := by
  unfold blkCell
  rw [List.getElem?_eraseIdx, if_pos h]
theorem blkCell_mid (vs : List Ver) (i j : Nat) (h : i ≤ j / 2) : blkCell (vs.eraseIdx i) j = blkCell vs (j + 2) := by
  unfold blkCell
  rw [List.getElem?_eraseIdx, if_neg (by omega), show (j + 2) / 2 = j / 2 + 1 by omega, show (j + 2) % 2 = j % 2 by omega]
theorem blkCell_none (vs : List Ver) (j : Nat) (h : vs.length ≤ j / 2) : blkCell vs j = if j % 2 = 0 then .pointer none else .int .i64 0 := by
  unfold blkCell
  rw [List.getElem?_eq_none h]
theorem blkCell_end (vs : List Ver) (i j : Nat) (hi : i < vs.length) (h : vs.length ≤ j / 2 + 1) : blkCell (vs.eraseIdx i) j = if j % 2 = 0 then .pointer none else .int .i64 0 :=
  blkCell_none _ _ (by rw [List.length_eraseIdx, if_pos hi]; omega)
theorem blkCell_high (vs : List Ver) (i j : Nat) (hi : i < vs.length) (h : vs.length ≤ j / 2) : blkCell vs j = blkCell (vs.eraseIdx i) j := by
  rw [blkCell_end vs i j hi (by omega), blkCell_none vs j h]

theorem clear_two (w : World) (ty c o cp : Nat) (hc : ∀ j, j < 2 → (w.cell? ⟨c, o + j, none⟩).isSome = true) (hf : ∀ j, j < 2 → w.frozen? ⟨c, o + j, none⟩ = false) :
    (Builtin.clear_ #[91] ty #[.slice (some ⟨c, o, none⟩) 1 cp]).run Try.prog w = .ok (.tuple #[]) (w.setCells c o [.pointer none, .int .i64 0]) := by
  have hzc : (Builtin.zeroCells (Value.agg #[.pointer none, .int .i64 0]).cells 1).toList = [.pointer none, .int .i64 0] := by simp [Builtin.zeroCells, Value.cells]; rfl
  have hst := run_storeCells_cells (P := Try.prog) c o [.pointer none, .int .i64 0] 0 w (by simpa using hc) (by simpa using hf) (by intro v hv'; simp at hv'; rcases hv' with rfl | rfl <;> rfl)
  simp only [Nat.add_zero] at hst
  simp [Builtin.clear_, run_underlying Try.underlying91, Try.zeroValue93, hzc, hst]

set_option maxRecDepth 20000 in
set_option maxHeartbeats 1000000 in
theorem del2_any (w : World) (c cap i : Nat) (vs : List Ver) (hrow : w.rowIs c 93 (2 * cap) (blkCell vs)) (hi : i < vs.length) (hc : vs.length ≤ cap) (_hcap : cap ≤ 65536) :
    Calls Try.prog 46 #[.slice (some ⟨c, 0, none⟩) vs.length cap, .int .i64 i, .int .i64 ((i : Int) + 1)] w fun e w' => e = .returned (.slice (some ⟨c, 0, none⟩) (vs.length - 1) cap) ∧ w'.rowIs c 93 (2 * cap) (blkCell (vs.eraseIdx i)) ∧ w.grownBy w' (some c) := by
  obtain ⟨n, en⟩ : ∃ n, n = vs.length := ⟨_, rfl⟩
  rw [← en] at hi hc ⊢
  have EN : Hid (n = vs.length) := en
  have HR : Hid (w.rowIs c 93 (2 * cap) (blkCell vs)) := hrow
  clear en hrow
  obtain ⟨news, hnews⟩ : ∃ news, news = (List.range (2 * (n - (i + 1)))).map (fun t => blkCell vs ((i + 1) * 2 + t)) := ⟨_, rfl⟩
  have hlen : news.length = 2 * (n - (i + 1)) := by rw [hnews]; simp
  have hget : ∀ t, t < 2 * (n - (i + 1)) → news[t]? = some (blkCell vs ((i + 1) * 2 + t)) := fun t ht => by rw [hnews]; simp [ht]
  obtain ⟨A, hA, hsrc⟩ : ∃ A : Addr, (if cap = i + 1 then some (⟨c, 0, none⟩ : Addr) else some ⟨c, (i + 1) * 2, none⟩) = some A ∧ Hid (∀ t u, news[t]? = some u → w.drew.cell? (A.add t) = some u) := by
    by_cases h : cap = i + 1
    · refine ⟨⟨c, 0, none⟩, by simp [h], fun t u hu => ?_⟩
      have h0 : news.length = 0 := by rw [hlen]; omega
      rw [List.length_eq_zero_iff.1 h0] at hu
      simp at hu
    · refine ⟨⟨c, (i + 1) * 2, none⟩, by simp [h], fun t u hu => ?_⟩
      have ht : t < 2 * (n - (i + 1)) := by
        have := (List.getElem?_eq_some_iff.1 hu).1
        rwa [hlen] at this
      rw [hget t ht] at hu
      rw [Addr.add_mid, ← hu]
      exact HR.out.cell (by omega)
  have s1 : Hid (news.length = (n - (i + 1)) * 2) := by show _ = _; omega
  have s2 : Hid (∀ u ∈ news, u.oneCell' = true) := by
    intro u hu
    rw [hnews] at hu
    obtain ⟨x, _, rfl⟩ := List.mem_map.1 hu
    exact blkCell_one vs _
  have s3 : Hid (∀ t, t < news.length → (w.drew.cell? ⟨c, 0 + i * 2 + t, none⟩).isSome = true ∧ w.drew.frozen? ⟨c, 0 + i * 2 + t, none⟩ = false) := by
    intro t ht
    rw [hlen] at ht
    rw [Nat.zero_add]
    exact ⟨by show (w.cell? _).isSome = true; rw [HR.out.cell (by omega)]; rfl, HR.out.frozen _⟩
  obtain ⟨W1, hW1⟩ : ∃ W1, W1 = w.drew.setCells c (0 + i * 2) news := ⟨_, rfl⟩
  have hW : Hid (W1 = w.drew.setCells c (0 + i * 2) news) := hW1
  have HW1 : Hid (W1.rowIs c 93 (2 * cap) (fun j => if 0 + i * 2 ≤ j ∧ j < 0 + i * 2 + news.length then news[j - (0 + i * 2)]?.getD default else blkCell vs j)) := by
    show World.rowIs _ _ _ _ _
    rw [hW1]
    exact rowIs_setCells news (0 + i * 2) w.drew _ HR.out
  have HG1 : Hid (w.grownBy W1 (some c)) := by
    show World.grownBy _ _ _
    rw [hW1]
    exact grown_setCells news _ _ ⟨rfl, rfl, rfl, Nat.le_refl _, fun _ _ _ => rfl⟩
  have NG : Hid (∀ t, t < 2 * (n - (i + 1)) → news[t]? = some (blkCell vs ((i + 1) * 2 + t))) := hget
  have NL : Hid (news.length = 2 * (n - (i + 1))) := hlen
  obtain ⟨i0, hi0, hz1⟩ : ∃ i0, Try.prog.info? 93 = some i0 ∧ i0.size = 2 := info_size (by kernel_rfl)
  have HI0 : Hid (Try.prog.info? 93 = some i0) := hi0
  have HZ1 : Hid (i0.size = 2) := hz1
  clear hW1 hget hnews hlen hi0 hz1
  have hcl : ∀ ty, (Builtin.clear_ #[91] ty #[.slice (some ⟨c, (i + (n - (i + 1))) * 2, none⟩) (n - (i + (n - (i + 1)))) (cap - (i + (n - (i + 1))))]).run Try.prog W1 = .ok (.tuple #[]) (W1.setCells c ((i + (n - (i + 1))) * 2) [.pointer none, .int .i64 0]) := fun ty => by
    rw [show n - (i + (n - (i + 1))) = 1 by omega]
    exact clear_two W1 ty c _ _ (fun j hj => by rw [HW1.out.cell (by omega)]; rfl) (fun j _ => HW1.out.frozen _)
  have q1 : (0 : Int) ≤ (i : Int) + 1 := by omega
  have q2 : (i : Int) + 1 ≤ (n : Int) := by omega
  have q3 : (i : Int) ≤ (cap : Int) := by omega
  go_enter Try.func46, Try.ntmps46
  go_wp2_with fail
  go_region_law (refine step_append_room rfl (.tmp 22) (.tmp 25) 91 rfl 93 i0 2 Try.underlying91 HI0.out HZ1.out c 0 i cap (by simp [Act.eval, Act.put]) A (n - (i + 1)) (cap - (i + 1)) news (by simp [Act.eval, Act.put]) s1.out hsrc.out s2.out (by omega) s3.out ?_; rw [← hW.out])
  go_wp2
  go_ret
  refine ⟨by rw [show n - 1 = i + (n - (i + 1)) by omega]; rfl, ?_, grown_setCells _ _ _ HG1.out⟩
  refine (rowIs_setCells _ _ _ _ HW1.out).congr (fun j _ => ?_)
  have hn := EN.out
  have hl := NL.out
  by_cases c1 : (i + (n - (i + 1))) * 2 ≤ j ∧ j < (i + (n - (i + 1))) * 2 + [Value.pointer none, .int .i64 0].length
  · rw [if_pos c1, blkCell_end vs i j (by omega) (by simp at c1; omega)]
    simp only [List.length_cons, List.length_nil] at c1
    by_cases hj : j % 2 = 0
    · rw [if_pos hj, show j - (i + (n - (i + 1))) * 2 = 0 by omega]; rfl
    · rw [if_neg hj, show j - (i + (n - (i + 1))) * 2 = 1 by omega]; rfl
  · rw [if_neg c1]
    simp only [List.length_cons, List.length_nil] at c1
    by_cases c2 : 0 + i * 2 ≤ j ∧ j < 0 + i * 2 + news.length
    · rw [if_pos c2, NG.out (j - (0 + i * 2)) (by omega), blkCell_mid vs i j (by omega), Option.getD_some]
      congr 1; omega
    · rw [if_neg c2]
      by_cases c3 : j / 2 < i
      · rw [blkCell_low vs i j c3]
      · rw [blkCell_high vs i j (by omega) (by omega)]
theorem outCell_one (vs : List Blk) (j : Nat) : (outCell vs j).oneCell' = true := by
  unfold outCell
  split <;> rfl
theorem outCell_low (vs : List Blk) (i j : Nat) (h : j < i) : outCell vs j = outCell (vs.eraseIdx i) j := by
  unfold outCell
  rw [List.getElem?_eraseIdx, if_pos h]
theorem outCell_mid (vs : List Blk) (i j : Nat) (h : i ≤ j) : outCell (vs.eraseIdx i) j = outCell vs (j + 1) := by
  unfold outCell
  rw [List.getElem?_eraseIdx, if_neg (by omega)]
theorem outCell_none (vs : List Blk) (j : Nat) (h : vs.length ≤ j) : outCell vs j = .slice none 0 0 := by
  unfold outCell
  rw [List.getElem?_eq_none h]
theorem outCell_end (vs : List Blk) (i j : Nat) (hi : i < vs.length) (h : vs.length ≤ j + 1) : outCell (vs.eraseIdx i) j = .slice none 0 0 :=
  outCell_none _ _ (by rw [List.length_eraseIdx, if_pos hi]; omega)
theorem outCell_high (vs : List Blk) (i j : Nat) (hi : i < vs.length) (h : vs.length ≤ j) : outCell vs j = outCell (vs.eraseIdx i) j := by
  rw [outCell_end vs i j hi (by omega), outCell_none vs j h]

theorem clear_one (w : World) (ty c o cp : Nat) (hc : ∀ j, j < 1 → (w.cell? ⟨c, o + j, none⟩).isSome = true) (hf : ∀ j, j < 1 → w.frozen? ⟨c, o + j, none⟩ = false) :
    (Builtin.clear_ #[54] ty #[.slice (some ⟨c, o, none⟩) 1 cp]).run Try.prog w = .ok (.tuple #[]) (w.setCells c o [.slice none 0 0]) :=
  Lib.run_clear_slice w 54 91 ty (.slice none 0 0) Try.underlying54 Try.zeroValue91 rfl rfl c o 1 cp (by omega) hc hf

set_option maxRecDepth 20000 in
set_option maxHeartbeats 1000000 in
theorem del1_any (w : World) (c cap i : Nat) (vs : List Blk) (hrow : w.rowIs c 91 cap (outCell vs)) (hi : i < vs.length) (hc : vs.length ≤ cap) (_hcap : cap ≤ 65536) :
    Calls Try.prog 47 #[.slice (some ⟨c, 0, none⟩) vs.length cap, .int .i64 i, .int .i64 ((i : Int) + 1)] w fun e w' => e = .returned (.slice (some ⟨c, 0, none⟩) (vs.length - 1) cap) ∧ w'.rowIs c 91 cap (outCell (vs.eraseIdx i)) ∧ w.grownBy w' (some c) := by
  obtain ⟨n, en⟩ : ∃ n, n = vs.length := ⟨_, rfl⟩
  rw [← en] at hi hc ⊢
  have EN : Hid (n = vs.length) := en
  have HR : Hid (w.rowIs c 91 cap (outCell vs)) := hrow
  clear en hrow
  obtain ⟨news, hnews⟩ : ∃ news, news = (List.range (n - (i + 1))).map (fun t => outCell vs (i + 1 + t)) := ⟨_, rfl⟩
  have hlen : news.length = n - (i + 1) := by rw [hnews]; simp
  have hget : ∀ t, t < n - (i + 1) → news[t]? = some (outCell vs (i + 1 + t)) := fun t ht => by rw [hnews]; simp [ht]
  obtain ⟨A, hA, hsrc⟩ : ∃ A : Addr, (if cap = i + 1 then some (⟨c, 0, none⟩ : Addr) else some ⟨c, i + 1, none⟩) = some A ∧ Hid (∀ t u, news[t]? = some u → w.drew.cell? (A.add t) = some u) := by
    by_cases h : cap = i + 1
    · refine ⟨⟨c, 0, none⟩, by simp [h], fun t u hu => ?_⟩
      have h0 : news.length = 0 := by rw [hlen]; omega
      rw [List.length_eq_zero_iff.1 h0] at hu
      simp at hu
    · refine ⟨⟨c, i + 1, none⟩, by simp [h], fun t u hu => ?_⟩
      have ht : t < n - (i + 1) := by
        have := (List.getElem?_eq_some_iff.1 hu).1
        rwa [hlen] at this
      rw [hget t ht] at hu
      rw [Addr.add_mid, ← hu]
      exact HR.out.cell (by omega)
  have s1 : Hid (news.length = (n - (i + 1)) * 1) := by show _ = _; omega
  have s2 : Hid (∀ u ∈ news, u.oneCell' = true) := by
    intro u hu
    rw [hnews] at hu
    obtain ⟨x, _, rfl⟩ := List.mem_map.1 hu
    exact outCell_one vs _
  have s3 : Hid (∀ t, t < news.length → (w.drew.cell? ⟨c, 0 + i * 1 + t, none⟩).isSome = true ∧ w.drew.frozen? ⟨c, 0 + i * 1 + t, none⟩ = false) := by
    intro t ht
    rw [hlen] at ht
    rw [Nat.zero_add]
    exact ⟨by show (w.cell? _).isSome = true; rw [HR.out.cell (by omega)]; rfl, HR.out.frozen _⟩
  obtain ⟨W1, hW1⟩ : ∃ W1, W1 = w.drew.setCells c (0 + i * 1) news := ⟨_, rfl⟩
  have hW : Hid (W1 = w.drew.setCells c (0 + i * 1) news) := hW1
  have HW1 : Hid (W1.rowIs c 91 cap (fun j => if 0 + i * 1 ≤ j ∧ j < 0 + i * 1 + news.length then news[j - (0 + i * 1)]?.getD default else outCell vs j)) := by
    show World.rowIs _ _ _ _ _
    rw [hW1]
    exact rowIs_setCells news (0 + i * 1) w.drew _ HR.out
  have HG1 : Hid (w.grownBy W1 (some c)) := by
    show World.grownBy _ _ _
    rw [hW1]
    exact grown_setCells news _ _ ⟨rfl, rfl, rfl, Nat.le_refl _, fun _ _ _ => rfl⟩
  have NG : Hid (∀ t, t < n - (i + 1) → news[t]? = some (outCell vs (i + 1 + t))) := hget
  have NL : Hid (news.length = n - (i + 1)) := hlen
  obtain ⟨i0, hi0, hz1⟩ : ∃ i0, Try.prog.info? 91 = some i0 ∧ i0.size = 1 := info_size (by kernel_rfl)
  have HI0 : Hid (Try.prog.info? 91 = some i0) := hi0
  have HZ1 : Hid (i0.size = 1) := hz1
  clear hW1 hget hnews hlen hi0 hz1
  have hcl : ∀ ty, (Builtin.clear_ #[54] ty #[.slice (some ⟨c, (i + (n - (i + 1))), none⟩) (n - (i + (n - (i + 1)))) (cap - (i + (n - (i + 1))))]).run Try.prog W1 = .ok (.tuple #[]) (W1.setCells c ((i + (n - (i + 1)))) [.slice none 0 0]) := fun ty => by
    rw [show n - (i + (n - (i + 1))) = 1 by omega]
    exact clear_one W1 ty c _ _ (fun j hj => by rw [HW1.out.cell (by omega)]; rfl) (fun j _ => HW1.out.frozen _)
  have q1 : (0 : Int) ≤ (i : Int) + 1 := by omega
  have q2 : (i : Int) + 1 ≤ (n : Int) := by omega
  have q3 : (i : Int) ≤ (cap : Int) := by omega
  go_enter Try.func47, Try.ntmps47
  go_wp2_with fail
  go_region_law (refine step_append_room rfl (.tmp 22) (.tmp 25) 54 rfl 91 i0 1 Try.underlying54 HI0.out HZ1.out c 0 i cap (by simp [Act.eval, Act.put]) A (n - (i + 1)) (cap - (i + 1)) news (by simp [Act.eval, Act.put]) s1.out hsrc.out s2.out (by omega) s3.out ?_; rw [← hW.out])
  go_wp2
  go_ret
  refine ⟨by rw [show n - 1 = i + (n - (i + 1)) by omega]; rfl, ?_, grown_setCells _ _ _ HG1.out⟩
  refine (rowIs_setCells _ _ _ _ HW1.out).congr (fun j _ => ?_)
  have hn := EN.out
  have hl := NL.out
  by_cases c1 : (i + (n - (i + 1))) ≤ j ∧ j < (i + (n - (i + 1))) + [Value.slice none 0 0].length
  · rw [if_pos c1, outCell_end vs i j (by omega) (by simp at c1; omega)]
    simp only [List.length_cons, List.length_nil] at c1
    rw [show j - (i + (n - (i + 1))) = 0 by omega]; rfl
  · rw [if_neg c1]
    simp only [List.length_cons, List.length_nil] at c1
    by_cases c2 : 0 + i * 1 ≤ j ∧ j < 0 + i * 1 + news.length
    · rw [if_pos c2, NG.out (j - (0 + i * 1)) (by omega), outCell_mid vs i j (by omega), Option.getD_some]
      congr 1; omega
    · rw [if_neg c2]
      by_cases c3 : j < i
      · rw [outCell_low vs i j c3]
      · rw [outCell_high vs i j (by omega) (by omega)]
end Go.Proofs.Qxb6616487a

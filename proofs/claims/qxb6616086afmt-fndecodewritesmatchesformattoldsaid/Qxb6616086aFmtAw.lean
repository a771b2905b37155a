import Derived.Test.Qxb6616086aFmtOp
/-! append at the four slices of structs, for the walk. -/
namespace Go.Proofs.Qxb6616086aFmt
open Go.RowKit

/-- What the program says of a struct that is kept in slices. -/
def Kept (e s : Nat) (z : Nat → Value) : Prop := ∃ i v, Tryf.prog.info? e = some i ∧ i.zero = some v ∧ i.size = s ∧ i.bytes ≤ 1000 ∧ v.cells.size = s ∧ ∀ k, k < s → v.cells[k]? = some (z k)

theorem kept_of {e s : Nat} {z : Nat → Value} {c : Array Value} {y : Nat} (h : (Tryf.prog.info? e).map (fun i => (i.zero.map (·.cells), i.size, i.bytes)) = some (some c, s, y)) (hy : y ≤ 1000) (hc : c.size = s) (hz : ∀ k, k < s → c[k]? = some (z k)) : Kept e s z := by
  obtain ⟨i, hi, hq⟩ := Option.map_eq_some_iff.1 h
  simp only [Prod.mk.injEq] at hq
  obtain ⟨h1, h2, h3⟩ := hq
  obtain ⟨v, hv, hcv⟩ := Option.map_eq_some_iff.1 h1
  subst hcv
  exact ⟨i, v, hi, hv, h2, by omega, hc, hz⟩

theorem kept42 : Kept 42 3 tabZ := kept_of (c := #[.string ByteArray.empty, .bool false, .slice none 0 0]) (y := 48) (by kernel_rfl) (by decide) rfl (fun k hk => by
  rcases (by omega : k = 0 ∨ k = 1 ∨ k = 2) with rfl | rfl | rfl <;> rfl)
theorem kept54 : Kept 54 4 tabZ := kept_of (c := #[.string ByteArray.empty, .bool false, .slice none 0 0, .map none]) (y := 56) (by kernel_rfl) (by decide) rfl (fun k hk => by
  rcases (by omega : k = 0 ∨ k = 1 ∨ k = 2 ∨ k = 3) with rfl | rfl | rfl | rfl <;> rfl)
theorem kept51 : Kept 51 3 chgZ := kept_of (c := #[.string ByteArray.empty, .slice none 0 0, .bool false]) (y := 48) (by kernel_rfl) (by decide) rfl (fun k hk => by
  rcases (by omega : k = 0 ∨ k = 1 ∨ k = 2) with rfl | rfl | rfl <;> rfl)
theorem kept58 : Kept 58 3 chgZ := kept_of (c := #[.string ByteArray.empty, .slice none 0 0, .bool false]) (y := 48) (by kernel_rfl) (by decide) rfl (fun k hk => by
  rcases (by omega : k = 0 ∨ k = 1 ∨ k = 2) with rfl | rfl | rfl <;> rfl)

/-- What an append of one element leaves. -/
structure Grew (w w' : World) (e s : Nat) (z f g1 : Nat → Value) (v v' : Value) (n : Nat) : Prop where
  rows : Rows w' e s z (behind n s f g1) v' (n + 1)
  grown : w.grownBy w' v.ownBlock
  own : (v'.ownBlock = v.ownBlock ∧ v.ownBlock ≠ none) ∨ v'.ownBlock = some w.heap.size
  notNil : v' ≠ .slice none 0 0

theorem wpList_append_rows {ops : Array Oper} {rest : List Oper} {o : Oper} {a : Act} {w : World} {Q : Exit → Act → World → Prop} (hgd : o.guard = none) (sl x : Operand) (t : TypeId)
    (ho : o.op = .call { callee := .builtin .append, args := #[sl, x], argTypes := #[t, t] }) (e s : Nat) (z : Nat → Value) (hk : Kept e s z) (hs0 : 0 < s) (ht : Tryf.prog.underlying t = some (.slice e))
    (v : Value) (n : Nat) (f : Nat → Value) (hv : a.eval sl = v) (hr : Rows w e s z f v n) (ad : Addr) (c : Nat) (hx : a.eval x = .slice (some ad) 1 c) (g1 : Nat → Value) (hc : ∀ k, k < s → w.cell? (ad.add k) = some (g1 k)) (h1 : ∀ k, k < s → (g1 k).oneCell' = true)
    (hn : n ≤ 1000000) (h : ∀ v' w', Grew w w' e s z f g1 v v' n → wpList Tryf.prog ops Q rest (a.put o.dst v') w') : wpList Tryf.prog ops Q (o :: rest) a w :=
  wpList_plain hgd fun K hK => by
    obtain ⟨i, zv, hi, hz, hsz, hby, hzs, hzf⟩ := hk
    have hb : (n + 1) * i.bytes ≤ 140737488355328 := by
      have h1 : (n + 1) * i.bytes ≤ 1000001 * 1000 := Nat.mul_le_mul (by omega) hby
      omega
    obtain ⟨v', w', hrun, r1, r2, r3, r4⟩ := run_append_rows (P := Tryf.prog) w t o.type e i zv s i.bytes ht hi hz hsz rfl hzs hs0 z hzf v n f hr ad c g1 hc h1 (by unfold maxLen; omega) hb
    unfold Oper.wp
    simp [execOp, ho, resolve, invoke, builtin, hv, hx, hrun, Result.andThen]
    exact hK _ _ (h v' w' ⟨r1, r2, r3, r4⟩)

theorem Grew.below {w w' : World} {e s : Nat} {z f g1 : Nat → Value} {v v' : Value} {n B : Nat} (h : Grew w w' e s z f g1 v v' n) (hB : B ≤ w.heap.size) (hlo : ∀ k, v.ownBlock = some k → B ≤ k) : Below B w w' :=
  (Below.refl B w).grown h.grown hB hlo
theorem Grew.lo {w w' : World} {e s : Nat} {z f g1 : Nat → Value} {v v' : Value} {n B : Nat} (h : Grew w w' e s z f g1 v v' n) (hB : B ≤ w.heap.size) (hlo : ∀ k, v.ownBlock = some k → B ≤ k) : ∀ k, v'.ownBlock = some k → B ≤ k := fun k hk => by
  rcases h.own with ⟨q, _⟩ | q
  · exact hlo k (q ▸ hk)
  · rw [q] at hk
    cases hk
    exact hB

/-! ### Finding a table by its name -/
theorem findT_some {ts : List PTab} {name : List UInt8} {k : Nat} (hk : k < ts.length) (hne : ∀ j, j < k → (ts.getD j tab0).name ≠ name) (he : (ts.getD k tab0).name = name) : findT ts name = some k := by
  unfold findT
  rw [List.findIdx?_eq_some_iff_getElem]
  refine ⟨hk, ?_, fun j hj => ?_⟩
  · have : ts.getD k tab0 = ts[k] := by simp [hk]
    rw [this] at he
    simp [he]
  · have hj' : j < ts.length := by omega
    have e : ts.getD j tab0 = ts[j] := by simp [hj']
    have := hne j hj
    rw [e] at this
    simp [this]
theorem findT_none {ts : List PTab} {name : List UInt8} (hne : ∀ j, j < ts.length → (ts.getD j tab0).name ≠ name) : findT ts name = none := by
  unfold findT
  rw [List.findIdx?_eq_none_iff]
  intro x hx
  obtain ⟨j, hj, rfl⟩ := List.mem_iff_getElem.1 hx
  have e : ts.getD j tab0 = ts[j] := by simp [hj]
  have := hne j hj
  rw [e] at this
  simp [this]
theorem name_pl (ts : List MTab) (j : Nat) : ((plain ts).getD j tab0).name = (tabAt ts j).name := by rw [tabAt_pl]; rfl
theorem plain_length (ts : List MTab) : (plain ts).length = ts.length := by unfold plain; simp
theorem strBytes (l : List UInt8) : (ByteArray.mk l.toArray).toList = l := by rw [ByteArray.toList_eq]
end Go.Proofs.Qxb6616086aFmt

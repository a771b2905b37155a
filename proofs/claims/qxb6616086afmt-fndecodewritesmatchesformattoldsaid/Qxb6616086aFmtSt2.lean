import Derived.Test.Qxb6616086aFmtZt
import Derived.BigQuiet
/-! THE WALK of zzSameTables. -/
namespace Go.Proofs.Qxb6616086aFmt
open Go.RowKit Go.Maps

theorem drewN_below {w w' : World} {n : Nat} (h : w' = w.drewN n) : Below w.heap.size w w' := by
  subst h
  exact ⟨rfl, rfl, rfl, Nat.le_refl _, fun _ _ => rfl⟩

theorem same_vals {w : World} {B1 B2 : Nat} {c1 c2 : MChg} (h1 : ValIs w B1 c1) (h2 : ValIs w B2 c2) (hv : c1.val = c2.val) :
    Calls Tryf.prog 17 #[c1.vv, c2.vv] w fun e w' => e = .returned (.bool true) ∧ Below w.heap.size w w' := by
  unfold ValIs at h1 h2
  rw [← hv] at h2
  cases hc : c1.val with
  | none =>
    rw [hc] at h1 h2
    rw [h1, h2]
    refine (same_nil w).mono ?_
    rintro e w' ⟨rfl, n, hn⟩
    exact ⟨rfl, drewN_below hn⟩
  | some l =>
    rw [hc] at h1 h2
    obtain ⟨hl, g1, cap1, cs1, e1, _, hb1, hx1⟩ := h1
    obtain ⟨_, g2, cap2, cs2, e2, _, hb2, hx2⟩ := h2
    rw [e1, e2]
    refine (same_some g1 cap1 g2 cap2 l w (by omega) (fun i hi => ?_) (fun i hi => ?_)).mono ?_
    · simp [World.cell?, hb1, hx1 i hi]
    · simp [World.cell?, hb2, hx2 i hi]
    · rintro e w' ⟨rfl, n, hn⟩
      exact ⟨rfl, drewN_below hn⟩

theorem rows_shape {w : World} {T s : Nat} {z f : Nat → Value} {v : Value} {n : Nat} (h : Rows w T s z f v n) : ∃ ao cp, v = .slice ao n cp := by
  rcases h with ⟨rfl, rfl⟩ | ⟨g, cap, rfl, _⟩
  · exact ⟨none, 0, rfl⟩
  · exact ⟨_, _, rfl⟩

theorem chg_cells51 {w : World} {g3 m cp q i : Nat} {cs : List MChg} (hr : Rows w 51 3 chgZ (chgCell cs) (.slice (some ⟨g3, 0, none⟩) m cp) m) (hq : q < m) (hi : i < 3) : w.cell? ⟨g3, q * 3 + i, none⟩ = some (chgF (chgAt cs q) i) := by
  rcases hr with ⟨e, _⟩ | ⟨g', cap', e, hc, _, hrow⟩
  · cases e
  · simp only [Value.slice.injEq, Option.some.injEq, Addr.mk.injEq] at e
    obtain ⟨⟨rfl, _⟩, _, rfl⟩ := e
    rw [hrow.cell (by omega), if_pos (by omega)]
    unfold chgCell
    rw [show (q * 3 + i) / 3 = q by omega, show (q * 3 + i) % 3 = i by omega]

theorem plain_at {ts1 ts2 : List MTab} (h : plain ts1 = plain ts2) (k : Nat) : (tabAt ts1 k).pl = (tabAt ts2 k).pl := by
  rw [← tabAt_pl, ← tabAt_pl, h]
theorem chg_at {m1 m2 : MTab} (h : m1.pl = m2.pl) (j : Nat) : (chgAt m1.cs j).pl = (chgAt m2.cs j).pl := by
  have e : m1.cs.map MChg.pl = m2.cs.map MChg.pl := congrArg PTab.cs h
  have h1 : ∀ (l : List MChg), (chgAt l j).pl = (l.map MChg.pl).getD j chg0.pl := fun l => by
    unfold chgAt
    rw [List.getD_eq_getElem?_getD, List.getD_eq_getElem?_getD, List.getElem?_map]
    cases l[j]? <;> rfl
  rw [h1, h1, e]

/-- What table k of either side holds, alike. -/
structure Alike (w : World) (g1 g2 k : Nat) (nm : List UInt8) (d : Bool) (m : Nat) (b1 b2 : Option Addr) (e1 e2 : Nat) (cs1 cs2 : List MChg) (B1 B2 : Nat) : Prop where
  n1 : w.cell? ⟨g1, k * 3, none⟩ = some (.string ⟨nm.toArray⟩)
  n2 : w.cell? ⟨g2, k * 3, none⟩ = some (.string ⟨nm.toArray⟩)
  d1 : w.cell? ⟨g1, k * 3 + 1, none⟩ = some (.bool d)
  d2 : w.cell? ⟨g2, k * 3 + 1, none⟩ = some (.bool d)
  c1 : w.cell? ⟨g1, k * 3 + 2, none⟩ = some (.slice b1 m e1)
  c2 : w.cell? ⟨g2, k * 3 + 2, none⟩ = some (.slice b2 m e2)
  r1 : Rows w 51 3 chgZ (chgCell cs1) (.slice b1 m e1) m
  r2 : Rows w 51 3 chgZ (chgCell cs2) (.slice b2 m e2) m
  v1 : ∀ j, j < m → ValIs w B1 (chgAt cs1 j)
  v2 : ∀ j, j < m → ValIs w B2 (chgAt cs2 j)
  pl : ∀ j, (chgAt cs1 j).pl = (chgAt cs2 j).pl
  le : m ≤ 65536

theorem alike_of {w : World} {B1 B2 g1 g2 n c1 c2 k : Nat} {ts1 ts2 : List MTab} (h1 : TabsIs w B1 42 3 51 (.slice (some ⟨g1, 0, none⟩) n c1) ts1) (h2 : TabsIs w B2 42 3 51 (.slice (some ⟨g2, 0, none⟩) n c2) ts2) (hpl : plain ts1 = plain ts2) (hn : n = ts1.length) (hcl : ∀ i, (tabAt ts1 i).cs.length ≤ 65536) (hk : k < n) :
    ∃ nm d m b1 b2 e1 e2 cs1 cs2, Alike w g1 g2 k nm d m b1 b2 e1 e2 cs1 cs2 B1 B2 := by
  have hl : ts1.length = ts2.length := by have := congrArg List.length hpl; rwa [plain_length, plain_length] at this
  have hk1 : k < ts1.length := by omega
  have hk2 : k < ts2.length := by omega
  have hp := plain_at hpl k
  have hnm : (tabAt ts1 k).name = (tabAt ts2 k).name := congrArg PTab.name hp
  have hdr : (tabAt ts1 k).drop = (tabAt ts2 k).drop := congrArg PTab.drop hp
  have hcs : (tabAt ts1 k).cs.length = (tabAt ts2 k).cs.length := by
    have := congrArg (fun t => t.cs.length) hp
    simpa [MTab.pl] using this
  obtain ⟨b1, e1, q1⟩ := rows_shape (h1.chg k hk1)
  obtain ⟨b2, e2, q2⟩ := rows_shape (h2.chg k hk2)
  have r1 := h1.chg k hk1
  have r2 := h2.chg k hk2
  rw [q1] at r1
  rw [q2] at r2
  have x1 := fun j (hj : j < 3) => (h1.cell rfl hk1 (k := j) hj).1
  have x2 := fun j (hj : j < 3) => (h2.cell rfl hk2 (k := j) hj).1
  refine ⟨(tabAt ts1 k).name, (tabAt ts1 k).drop, (tabAt ts1 k).cs.length, b1, b2, e1, e2, (tabAt ts1 k).cs, (tabAt ts2 k).cs, ⟨x1 0 (by decide), ?_, x1 1 (by decide), ?_, ?_, ?_, r1, ?_, h1.val k hk1, ?_, chg_at hp, hcl k⟩⟩
  · rw [hnm]; exact x2 0 (by decide)
  · rw [hdr]; exact x2 1 (by decide)
  · rw [← q1]; exact x1 2 (by decide)
  · rw [hcs, ← q2]; exact x2 2 (by decide)
  · rw [hcs]; exact r2
  · rw [hcs]; exact h2.val k hk2
end Go.Proofs.Qxb6616086aFmt

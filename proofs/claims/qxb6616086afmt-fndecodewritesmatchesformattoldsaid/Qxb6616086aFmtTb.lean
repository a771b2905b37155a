import Derived.Test.Qxb6616086aFmtIl
/-! THE WRITE SET: find, table. -/
namespace Go.Proofs.Qxb6616086aFmt
open Go.RowKit Go.Maps

set_option maxHeartbeats 1000000 in
theorem findIn_nil (name : List UInt8) (w : World) :
    Calls Tryf.prog 26 #[.map none, .slice none 0 0, strV name, .func (.func 27) #[] #[]] w fun e w' => e = .returned (.int .i64 (-1)) ∧ w' = w := by
  have q1 := neq29nil
  unfold strV
  go_enter Tryf.func26, Tryf.ntmps26
  go_wp2
  refine wp_loop_rounds 1 ?_
  rw [rounds_succ]
  go_wp2
  go_ret
  exact ⟨rfl, rfl⟩

theorem findIn_any (B : Nat) (tv xv : Value) (ts : List MTab) (name : List UInt8) (w : World) (hn : ts.length ≤ 1000000) (hl : name.length ≤ 65536) (h : TabsIs w B 54 4 58 tv ts) (hx : IxIs w B xv ts) :
    Calls Tryf.prog 26 #[xv, tv, strV name, .func (.func 27) #[] #[]] w fun e w' => e = .returned (.int .i64 (fnd (plain ts) name)) ∧ w' = w := by
  rcases hx with ⟨rfl, _⟩ | ⟨mb, D, rfl, _, _, hown, hix⟩
  · rcases h.row with ⟨rfl, hl0⟩ | ⟨g, cap, rfl, _⟩
    · obtain rfl : ts = [] := List.eq_nil_of_length_eq_zero hl0
      exact findIn_nil name w
    · exact findIn_list B g cap ts name w hn h
  · exact findIn_map mb ts.length D tv (plain ts) name w hl hown hix

theorem IxIs.of_below {w w' : World} {B : Nat} {xv : Value} {ts : List MTab} (h : IxIs w B xv ts) (hb : Below w.heap.size w w') : IxIs w' B xv ts := by
  rcases h with h | ⟨mb, D, h1, h2, h3, h4, h5⟩
  · exact .inl h
  · exact .inr ⟨mb, D, h1, h2, h3, h4.kept (row := none) ⟨hb.os, hb.tape, hb.output, hb.size, fun b hb' _ => hb.block b hb'⟩ (by simp), h5⟩

set_option maxHeartbeats 1000000 in
theorem find_any (B : Nat) (tv xv : Value) (ts : List MTab) (name : List UInt8) (w : World) (hn : ts.length ≤ 1000000) (hl : name.length ≤ 65536) (h : TabsIs w B 54 4 58 tv ts) (hx : IxIs w B xv ts) :
    Calls Tryf.prog 18 #[.agg #[tv, xv], strV name] w fun e w' => e = .returned (.int .i64 (fnd (plain ts) name)) ∧ w' = w.alloc (.cells #[tv, xv] 31) := by
  have hb : Below w.heap.size w (w.alloc (.cells #[tv, xv] 31)) := (Below.refl _ w).alloc (Nat.le_refl _) _
  have K := findIn_any B tv xv ts name (w.alloc (.cells #[tv, xv] 31)) hn hl (h.of_below hb) (hx.of_below hb)
  generalize fnd (plain ts) name = r at K ⊢
  clear h hx hb
  go_enter Tryf.func18, Tryf.ntmps18
  go_wp2_with fail
  refine K.mono ?_
  rintro e' w' ⟨rfl, ew⟩
  subst w'
  clear K
  go_wp2
  go_ret
  exact ⟨rfl, rfl⟩

/-- What lies in a write set's block. -/
def wsF (tv xv : Value) (i : Nat) : Value := if i = 0 then tv else xv
/-- The blocks of readers stand. -/
def Keep63 (w w' : World) : Prop := ∀ (b : Nat) (c : Array Value), w.heap[b]? = some (Obj.cells c 63 (0, 0)) → w'.heap[b]? = w.heap[b]?
theorem Keep63.trans {a b c : World} (h : Keep63 a b) (k : Keep63 b c) : Keep63 a c := fun i x hi => (k i x ((h i x hi).trans hi)).trans (h i x hi)
theorem Keep63.of_below {w w' : World} (h : Below w.heap.size w w') : Keep63 w w' := fun b _ hc => h.block b (Array.getElem?_eq_some_iff.1 hc).1

structure WsIs (w : World) (B wb : Nat) (tv xv : Value) (ts : List MTab) : Prop where
  row : w.rowIs wb 31 2 (wsF tv xv)
  lo : B ≤ wb
  tabs : TabsIs w B 54 4 58 tv ts
  uniq : Uniq ts
  nlen : ∀ i, (tabAt ts i).name.length ≤ 65536
  ix : IxIs w B xv ts

theorem uniq_snoc {ts : List MTab} {m : MTab} (hu : Uniq ts) (hf : findT (plain ts) m.name = none) : Uniq (ts ++ [m]) := fun i j hi hj he => by
  have hno : ∀ k, k < ts.length → (tabAt ts k).name ≠ m.name := fun k hk q => by
    have h1 : k < (plain ts).length := by rw [plain_length]; exact hk
    unfold findT at hf
    rw [List.findIdx?_eq_none_iff] at hf
    have h2 := hf ((plain ts).getD k tab0) (by simp [h1])
    rw [name_pl, q] at h2
    simp at h2
  simp only [List.length_append, List.length_singleton] at hi hj
  rw [tabAt_snoc, tabAt_snoc] at he
  by_cases e1 : i = ts.length
  · by_cases e2 : j = ts.length
    · omega
    · rw [if_pos e1, if_neg e2] at he
      exact absurd he.symm (hno j (by omega))
  · by_cases e2 : j = ts.length
    · rw [if_neg e1, if_pos e2] at he
      exact absurd he (hno i (by omega))
    · rw [if_neg e1, if_neg e2] at he
      exact hu i j (by omega) (by omega) he

def Indexed (w w' : World) (B wb : Nat) (tv : Value) (ts : List MTab) : Prop := ∃ xv', w'.rowIs wb 31 2 (wsF tv xv') ∧ TabsIs w' B 54 4 58 tv ts ∧ IxIs w' B xv' ts ∧ Below B w w' ∧ Keep63 w w'

theorem indexLast_any (B wb g cap n : Nat) (xv : Value) (ts : List MTab) (m : MTab) (w : World) (hB : B ≤ w.heap.size) (hlo : B ≤ wb) (hn : ts.length < 1000000) (en : n = ts.length + 1) (hr : w.rowIs wb 31 2 (wsF (.slice (some ⟨g, 0, none⟩) n cap) xv))
    (ht : TabsIs w B 54 4 58 (.slice (some ⟨g, 0, none⟩) n cap) (ts ++ [m])) (hu : Uniq ts) (hl : ∀ i, (tabAt (ts ++ [m]) i).name.length ≤ 65536) (hx : IxIs w B xv ts) (hf : findT (plain ts) m.name = none) :
    Calls Tryf.prog 28 #[.pointer (some ⟨wb, 1, none⟩), .slice (some ⟨g, 0, none⟩) n cap, .func (.func 27) #[] #[]] w fun e w' => e = .returned (.tuple #[]) ∧ Indexed w w' B wb (.slice (some ⟨g, 0, none⟩) n cap) (ts ++ [m]) := by
  subst en
  have hlen : (ts ++ [m]).length = ts.length + 1 := by simp
  have hrc := hr
  rcases hx with ⟨rfl, h8⟩ | ⟨mb, D, rfl, h8, hmb, hown, hix⟩
  · by_cases h9 : ts.length + 1 ≤ 8
    · refine (indexLast_few g cap (ts.length + 1) wb w h9 (by omega) (hr.cell (i := 1) (by decide))).mono ?_
      rintro e w' ⟨rfl, rfl⟩
      exact ⟨rfl, .map none, hr, ht, .inl ⟨rfl, by omega⟩, Below.refl _ _, Keep63.of_below (Below.refl _ _)⟩
    · have K := indexLast_make B g cap wb (ts ++ [m]) _ w (by omega) (by omega) hr rfl (by rw [hlen]; exact ht) (uniq_snoc hu hf) hl
      rw [hlen] at K
      refine K.mono ?_
      rintro e w' ⟨rfl, D, hown, hix, hg⟩
      have hal : Below w.heap.size w (w.alloc (.map #[] 0)) := (Below.refl _ w).alloc (Nat.le_refl _) _
      have hr1 : (made w wb).rowIs wb 31 2 (wsF (.slice (some ⟨g, 0, none⟩) (ts.length + 1) cap) (.map (some w.heap.size))) :=
        ((hr.alloc _).set 1 _).congr fun i hi => by rcases (by omega : i = 0 ∨ i = 1) with rfl | rfl <;> rfl
      have hne : ∀ b, b < w.heap.size → some b ≠ some w.heap.size := fun b hb e => by simp at e; omega
      have hsz : (made w wb).heap.size = w.heap.size + 1 := by unfold made; simp
      have hmade : ∀ b, b < w.heap.size → b ≠ wb → (made w wb).heap[b]? = w.heap[b]? := fun b hb hb' => by
        unfold made
        rw [heap_setCell_other _ _ _ _ hb']
        exact hal.block b hb
      have hall : ∀ b, b < w.heap.size → b ≠ wb → w'.heap[b]? = w.heap[b]? := fun b hb hb' => (hg.block b (by omega) (hne b hb)).trans (hmade b hb hb')
      refine ⟨rfl, .map (some w.heap.size), hr1.of_block (hg.block wb (by have := hr.lt; omega) (hne wb hr.lt)), ?_, .inr ⟨w.heap.size, D, rfl, by omega, hB, by rw [hlen]; exact hown, hix⟩, ?_, fun b c hc => ?_⟩
      · obtain ⟨cw, hcw, _⟩ := hr
        refine ht.kept fun b c t hc htt => hall b (Array.getElem?_eq_some_iff.1 hc).1 fun e => ?_
        subst e
        rw [hcw] at hc
        simp only [Option.some.injEq, Obj.cells.injEq] at hc
        obtain ⟨_, rfl, _⟩ := hc
        rcases htt with q | q | ⟨q, _⟩ <;> exact absurd q (by decide)
      · exact Below.grown (w := made w wb) (((Below.refl B w).alloc hB _).setCell hlo _) hg (by omega) (fun k hk => by cases hk; exact hB)
      · obtain ⟨cw, hcw, _⟩ := hr
        refine hall b (Array.getElem?_eq_some_iff.1 hc).1 fun e => ?_
        subst e
        rw [hcw] at hc
        simp at hc
  · have hname := (ht.cell rfl (t := ts.length) (by omega) (k := 0) (by decide)).1
    rw [tabAt_snoc, if_pos rfl] at hname
    have hlm : m.name.length ≤ 65536 := by have := hl ts.length; rwa [tabAt_snoc, if_pos rfl] at this
    refine (indexLast_map g cap ts.length wb mb D m.name w hlm (by omega) (hr.cell (i := 1) (by decide)) hname hown).mono ?_
    rintro e w' ⟨rfl, hown', hg⟩
    obtain ⟨cw, hcw, _⟩ := hrc
    refine ⟨rfl, .map (some mb), hr.of_block (hg.block wb hr.lt (map_ne hown hcw)), tabs_map hown hg ht, .inr ⟨mb, _, rfl, by omega, hmb, by rw [hlen]; exact hown', ?_⟩, (Below.refl B w).grown hg hB (fun k hk => by cases hk; exact hmb), fun b c hc => hg.block b (Array.getElem?_eq_some_iff.1 hc).1 (map_ne hown hc)⟩
    rw [plain_snoc]
    have := idx_snoc (t := m.pl) hown.isMap hix hf
    rw [plain_length] at this
    exact this
end Go.Proofs.Qxb6616086aFmt

import Derived.Test.Qxb6616086aFmtFi
import Derived.Deep.RegionHeld3
/-! THE WRITE SET's INDEX: indexLast. -/
namespace Go.Proofs.Qxb6616086aFmt
open Go.RowKit Go.Maps

theorem step_mapUpdate_own {H : Type} {P : Program} (w : World) {ops : Array Oper} {o : Oper} {a : Act} {K' : Act → World → Prop} {Q : Exit → Act → World → Prop} {E : Prop}
    (hgd : o.guard = none) (m x v : Operand) (t : TypeId) (hop : o.op = Op.mapUpdate t m x v)
    (k e : TypeId) (K : Keyed P k) (ht : P.underlying t = some (.map k e)) (R : Value → Option (DataW H × List MemPlace)) (b n : Nat) (D : DataW H)
    (hm : a.eval m = .map (some b)) (hown : w.ownsMap P k R b n D) (hn : n < maxLen) (key val : Value) (kl : Lit) (hx : a.eval x = key) (hv : a.eval v = val) (hkey : keyOf P k key = some kl)
    (d : DataW H) (ps : List MemPlace) (hval : R val = some (d, ps))
    (hK : ∀ w', w'.ownsMap P k R b (n + 1) (D.put kl d) → w.grownBy w' (some b) → K' (a.put o.dst undef) w') :
    if Region.wanted o (yielded ops a.tmps) = true then Oper.wp P o a w K' Q else E := by
  have hw : Region.wanted o (yielded ops a.tmps) = true := by simp [Region.wanted, hgd]
  rw [if_pos hw]
  obtain ⟨w', hrun, r1, r2⟩ := hown.update K ht hn hkey hval
  unfold Oper.wp
  simp [execOp, hop, hm, hx, hv, hrun, Result.andThen]
  exact hK w' r1 r2

theorem own_ne {w : World} {mb n : Nat} {D : DataW Unit} (h : w.ownsMap Tryf.prog 9 (plainElem Tryf.prog 3) mb n D) {a : Addr} {v : Value} (hc : w.cell? a = some v) : some a.block ≠ some mb := by
  obtain ⟨es, clock, hb, _⟩ := h
  intro e
  have e' : a.block = mb := Option.some.inj e
  subst e'
  unfold World.cell? at hc
  rw [hb] at hc
  simp at hc

set_option maxHeartbeats 2000000 in
set_option maxRecDepth 100000 in
theorem indexLast_map (g cap m wb mb : Nat) (D : DataW Unit) (name : List UInt8) (w : World) (hl : name.length ≤ 65536) (hm : m ≤ 1000000)
    (c1 : w.cell? ⟨wb, 1, none⟩ = some (.map (some mb))) (cn : w.cell? ⟨g, m * 4, none⟩ = some (strV name)) (hown : w.ownsMap Tryf.prog 9 (plainElem Tryf.prog 3) mb m D) :
    Calls Tryf.prog 28 #[.pointer (some ⟨wb, 1, none⟩), .slice (some ⟨g, 0, none⟩) (m + 1) cap, .func (.func 27) #[] #[]] w fun e w' =>
      e = .returned (.tuple #[]) ∧ w'.ownsMap Tryf.prog 9 (plainElem Tryf.prog 3) mb (m + 1) (D.put (.string name) (.lit (.int .i64 (m : Int)))) ∧ w.grownBy w' (some mb) := by
  have q1 := neq29some
  have hk := key9 name hl
  have i0 : (0 : Int) ≤ (m : Int) := by omega
  have i1 : (m : Int) < ((m + 1 : Nat) : Int) := by omega
  obtain ⟨w1, hup, hown1, hg1⟩ := hown.drew.update law9 Tryf.underlying29 (by unfold maxLen; omega) hk (plainElem_int (H := Unit) Tryf.underlying3 (a := (m : Int)) (WalkArith.wf_i64 (by omega)))
  have c1' : w1.cell? ⟨wb, 1, none⟩ = some (.map (some mb)) := hg1.cell (a := ⟨wb, 1, none⟩) c1 (own_ne hown c1)
  have cn' : w1.cell? ⟨g, m * 4, none⟩ = some (.string ⟨name.toArray⟩) := hg1.cell (a := ⟨g, m * 4, none⟩) cn (own_ne hown cn)
  have HO : Hid _ := hown1
  have HG : Hid _ := hg1
  clear hown1 hg1 hown hk
  unfold strV at cn
  go_enter Tryf.func28, Tryf.ntmps28
  go_wp2_with fail
  generalize hmn : m + 1 = n at i1 ⊢
  go_region_held3 (fun w' => w'.cell? ⟨wb, 1, none⟩ = some (.map (some mb)) ∧ w'.cell? ⟨g, m * 4, none⟩ = some (.string ⟨name.toArray⟩)) (go_keep)
    (first | (go_at_call 27; refine (nameOf_any g (m * 4) name _ ?_).mono ?_; (simp [*, strV]); unfold strV; rintro e w' ⟨rfl, rfl⟩))
  go_wp2
  go_end0
  exact ⟨rfl, HO.out, World.grownBy.trans (b := w.drew) ⟨rfl, rfl, rfl, Nat.le_refl _, fun _ _ _ => rfl⟩ HG.out⟩

theorem indexLast_few (g cap n wb : Nat) (w : World) (hn : n ≤ 8) (h0 : 0 < n) (c1 : w.cell? ⟨wb, 1, none⟩ = some (.map none)) :
    Calls Tryf.prog 28 #[.pointer (some ⟨wb, 1, none⟩), .slice (some ⟨g, 0, none⟩) n cap, .func (.func 27) #[] #[]] w fun e w' => e = .returned (.tuple #[]) ∧ w' = w := by
  have q1 := neq29nil
  go_enter Tryf.func28, Tryf.ntmps28
  go_wp2
  go_end0
  exact ⟨rfl, rfl⟩

/-! ### The map's content, table by table -/
theorem findT_snoc (ts : List PTab) (t : PTab) (l : List UInt8) : findT (ts ++ [t]) l = match findT ts l with | some i => some i | none => if t.name = l then some ts.length else none := by
  unfold findT
  rw [List.findIdx?_append]
  cases h : ts.findIdx? (fun t => t.name == l) with
  | some i => simp
  | none =>
    by_cases e : t.name = l
    · simp [e, List.findIdx?_cons]
    · simp [e, List.findIdx?_cons]

theorem idx_nil : IdxOf (.map []) [] := fun l => ⟨fun _ => rfl, fun i h => by simp [findT] at h⟩

theorem idx_snoc {D : DataW Unit} {ts : List PTab} {t : PTab} (hD : IsMap D) (h : IdxOf D ts) (hf : findT ts t.name = none) : IdxOf (D.put (.string t.name) (.lit (.int .i64 (ts.length : Int)))) (ts ++ [t]) := fun l => by
  rw [findT_snoc]
  by_cases e : t.name = l
  · subst e
    rw [hf]
    simp only [if_true]
    refine ⟨fun q => by simp at q, fun i hi => ?_⟩
    simp only [Option.some.injEq] at hi
    subst hi
    exact ⟨has_put_same hD (by simp [WideAt.IsKeyLit]) _, fun z => atKey_put_same hD (by simp [WideAt.IsKeyLit]) _ _⟩
  · have hne : (Lit.string l : Lit) ≠ .string t.name := fun q => e (by cases q; rfl)
    have h1 := h l
    rw [has_put_other hne]
    cases hl : findT ts l with
    | some i =>
      refine ⟨fun q => by simp at q, fun j hj => ?_⟩
      simp only [Option.some.injEq] at hj
      subst hj
      exact ⟨(h1.2 i hl).1, fun z => by rw [atKey_put_other hne]; exact (h1.2 i hl).2 z⟩
    | none => exact ⟨fun _ => h1.1 hl, fun j hj => by simp [e] at hj⟩

def Uniq (ts : List MTab) : Prop := ∀ i j, i < ts.length → j < ts.length → (tabAt ts i).name = (tabAt ts j).name → i = j

theorem take_snoc (ts : List MTab) {k : Nat} (hk : k < ts.length) : ts.take (k + 1) = ts.take k ++ [tabAt ts k] := by
  rw [List.take_succ_eq_append_getElem hk]
  simp [tabAt, hk]
theorem take_at (ts : List MTab) {k j : Nat} (hj : j < k) : tabAt (ts.take k) j = tabAt ts j := by
  unfold tabAt
  rw [List.getD_eq_getElem?_getD, List.getD_eq_getElem?_getD, List.getElem?_take, if_pos hj]
theorem take_find {ts : List MTab} (hu : Uniq ts) {k : Nat} (hk : k < ts.length) : findT (plain (ts.take k)) (tabAt ts k).name = none := findT_none fun j hj => by
  rw [plain_length, List.length_take] at hj
  rw [name_pl, take_at ts (by omega)]
  intro q
  have := hu j k (by omega) hk q
  omega

theorem make29 (x : Int) (w : World) : (Instr.makeMap 29 (some (.int .i64 x))).run Tryf.prog w = .ok (.map (some w.heap.size)) (w.alloc (.map #[] 0)) := by kernel_rfl

theorem map_ne {w : World} {mb n b : Nat} {D : DataW Unit} {c : Array Value} {t : TypeId} {fr : Nat × Nat} (h : w.ownsMap Tryf.prog 9 (plainElem Tryf.prog 3) mb n D) (hc : w.heap[b]? = some (.cells c t fr)) : some b ≠ some mb := by
  obtain ⟨es, clock, hb, _⟩ := h
  intro e
  have e' : b = mb := Option.some.inj e
  subst e'
  rw [hb] at hc
  simp at hc
theorem tabs_map {w w' : World} {mb n B T s C : Nat} {D : DataW Unit} {tv : Value} {ts : List MTab} (h : w.ownsMap Tryf.prog 9 (plainElem Tryf.prog 3) mb n D) (hg : w.grownBy w' (some mb)) (ht : TabsIs w B T s C tv ts) : TabsIs w' B T s C tv ts :=
  ht.kept fun b _ _ hc _ => hg.block b (Array.getElem?_eq_some_iff.1 hc).1 (map_ne h hc)

/-- The world behind the making of the map. -/
def made (w : World) (wb : Nat) : World := (w.alloc (.map #[] 0)).setCell ⟨wb, 1, none⟩ (.map (some w.heap.size))

set_option maxHeartbeats 2000000 in
set_option maxRecDepth 100000 in
theorem indexLast_make (B g cap wb : Nat) (ts : List MTab) (f : Nat → Value) (w : World) (hn : ts.length ≤ 1000000) (h8 : 8 < ts.length) (hw : w.rowIs wb 31 2 f) (hf1 : f 1 = .map none)
    (h : TabsIs w B 54 4 58 (.slice (some ⟨g, 0, none⟩) ts.length cap) ts) (hu : Uniq ts) (hl : ∀ i, (tabAt ts i).name.length ≤ 65536) :
    Calls Tryf.prog 28 #[.pointer (some ⟨wb, 1, none⟩), .slice (some ⟨g, 0, none⟩) ts.length cap, .func (.func 27) #[] #[]] w fun e w' =>
      e = .returned (.tuple #[]) ∧ ∃ D, w'.ownsMap Tryf.prog 9 (plainElem Tryf.prog 3) w.heap.size ts.length D ∧ IdxOf D (plain ts) ∧ (made w wb).grownBy w' (some w.heap.size) := by
  have q1 := neq29nil
  have mk := make29
  have c1 : w.cell? ⟨wb, 1, none⟩ = some (.map none) := by rw [hw.cell (by decide), hf1]
  have f1 : w.frozen? ⟨wb, 1, none⟩ = false := hw.frozen 1
  have HU : Hid (Uniq ts) := hu
  have HL : Hid (∀ i, (tabAt ts i).name.length ≤ 65536) := hl
  have hw1 : (w.alloc (.map #[] 0)).rowIs wb 31 2 f := hw.alloc _
  have HT : Hid (TabsIs (made w wb) B 54 4 58 (.slice (some ⟨g, 0, none⟩) ts.length cap) ts) := by
    obtain ⟨c, hc, _⟩ := hw1
    exact (h.of_below ((Below.refl _ w).alloc (Nat.le_refl _) _)).kept (TKeep.set hc (by decide) (by decide) (fun q => absurd q (by decide)) 1 _)
  have HO : Hid ((made w wb).ownsMap Tryf.prog 9 (plainElem (H := Unit) Tryf.prog 3) w.heap.size 0 (.map [])) :=
    (World.ownsMap_made w Tryf.prog 9 (plainElem Tryf.prog 3)).kept (turn_set _ wb 1 _) (fun e => by have := hw.lt; simp at e; omega)
  have cw1 : (made w wb).cell? ⟨wb, 1, none⟩ = some (.map (some w.heap.size)) := by
    have := (hw1.set 1 (.map (some w.heap.size))).cell (i := 1) (by decide)
    unfold made
    simpa using this
  have HC : Hid ((made w wb).cell? ⟨wb, 1, none⟩ = some (.map (some w.heap.size))) := cw1
  have c1a : (w.alloc (.map #[] 0)).cell? ⟨wb, 1, none⟩ = some (.map none) := by rw [hw1.cell (by decide), hf1]
  have f1a : (w.alloc (.map #[] 0)).frozen? ⟨wb, 1, none⟩ = false := hw1.frozen 1
  clear hw hw1 cw1 h hu hl hf1
  go_enter Tryf.func28, Tryf.ntmps28
  go_wp2
  clear mk q1 c1 f1 c1a f1a
  simp only [show decide ((8 : Int) < (ts.length : Int)) = true from decide_eq_true (by omega)]
  go_loopw [37] (fun i wr => ∃ (k : Nat) (D : DataW Unit), k ≤ ts.length ∧ i = .int .i64 k ∧ Hid (wr.ownsMap Tryf.prog 9 (plainElem Tryf.prog 3) w.heap.size k D) ∧ Hid (IdxOf D (plain (ts.take k))) ∧ Hid ((made w wb).grownBy wr (some w.heap.size))) (fun i _ => ts.length - (intOf i).toNat)
  case atStart => exact ⟨0, .map [], Nat.zero_le _, rfl, HO.out, by show IdxOf _ _; rw [List.take_zero]; exact idx_nil, World.grownBy.refl _ _⟩
  case round =>
    obtain ⟨k, D, hk, rfl, HOk, HI, HG⟩ := hrel
    by_cases hlt : k < ts.length
    · have HTr : TabsIs wr B 54 4 58 (.slice (some ⟨g, 0, none⟩) ts.length cap) ts := tabs_map HO.out HG.out HT.out
      obtain ⟨name, en⟩ : ∃ name, name = (tabAt ts k).name := ⟨_, rfl⟩
      have cn : wr.cell? ⟨g, k * 4, none⟩ = some (.string ⟨name.toArray⟩) := by rw [en]; exact (HTr.cell rfl hlt (k := 0) (by decide)).1
      have c1 : wr.cell? ⟨wb, 1, none⟩ = some (.map (some w.heap.size)) := HG.out.cell (a := ⟨wb, 1, none⟩) HC.out (own_ne HO.out HC.out)
      have i0 : (0 : Int) ≤ (k : Int) := by omega
      have i1 : (k : Int) < (ts.length : Int) := by omega
      have hke := key9 name (by rw [en]; exact HL.out k)
      obtain ⟨w1, hup, hown1, hg1⟩ := HOk.out.drew.update law9 Tryf.underlying29 (by unfold maxLen; omega) hke (plainElem_int (H := Unit) Tryf.underlying3 (a := (k : Int)) (WalkArith.wf_i64 (by omega)))
      have c1' : w1.cell? ⟨wb, 1, none⟩ = some (.map (some w.heap.size)) := hg1.cell (a := ⟨wb, 1, none⟩) c1 (own_ne HOk.out c1)
      have cn' : w1.cell? ⟨g, k * 4, none⟩ = some (.string ⟨name.toArray⟩) := hg1.cell (a := ⟨g, k * 4, none⟩) cn (own_ne HOk.out cn)
      have HO1 : Hid (w1.ownsMap Tryf.prog 9 (plainElem Tryf.prog 3) w.heap.size (k + 1) (D.put (.string name) (.lit (.int .i64 (k : Int))))) := hown1
      have HG1 : Hid ((made w wb).grownBy w1 (some w.heap.size)) := HG.out.trans (World.grownBy.trans (b := wr.drew) ⟨rfl, rfl, rfl, Nat.le_refl _, fun _ _ _ => rfl⟩ hg1)
      have HI1 : Hid (IdxOf (D.put (.string name) (.lit (.int .i64 (k : Int)))) (plain (ts.take (k + 1)))) := by
        show IdxOf _ _
        rw [take_snoc ts hlt, plain_snoc, en]
        have e1 : ((k : Nat) : Int) = (((plain (ts.take k)).length : Nat) : Int) := by rw [plain_length, List.length_take]; omega
        rw [e1]
        exact idx_snoc HOk.out.isMap HI.out (take_find HU.out hlt)
      clear hown1 hg1 HTr HOk HI HG HT HO HC HL HU en hke
      go_wp2_with fail
      go_region_held3 (fun w' => w'.cell? ⟨wb, 1, none⟩ = some (.map (some w.heap.size)) ∧ w'.cell? ⟨g, k * 4, none⟩ = some (.string ⟨name.toArray⟩)) (go_keep)
        (first | (go_at_call 27; refine (nameOf_any g (k * 4) name _ ?_).mono ?_; (simp [*, strV]); unfold strV; rintro e w' ⟨rfl, rfl⟩))
      go_wp2
      go_roundw
      case rel => exact ⟨k + 1, _, by omega, by go_num, HO1, HI1, HG1⟩
      case measure => simp [intOf]; omega
    · go_wp2
      go_end0
      have e : k = ts.length := by omega
      subst e
      refine ⟨rfl, D, HOk.out, ?_, HG.out⟩
      have := HI.out
      rw [List.take_length] at this
      exact this
end Go.Proofs.Qxb6616086aFmt

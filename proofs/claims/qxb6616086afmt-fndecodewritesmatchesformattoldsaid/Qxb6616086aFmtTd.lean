import Derived.Test.Qxb6616086aFmtTc
/-! THE WALK of writeSet.table. -/
namespace Go.Proofs.Qxb6616086aFmt
open Go.RowKit Go.Maps

theorem fnd_none {ts : List PTab} {name : List UInt8} (h : findT ts name = none) : fnd ts name = -1 := by unfold fnd; rw [h]
theorem fnd_some {ts : List PTab} {name : List UInt8} {i : Nat} (h : findT ts name = some i) : fnd ts name = (i : Int) := by unfold fnd; rw [h]

theorem find_off {B wb : Nat} {tv xv : Value} {ts : List MTab} {name : List UInt8} {w : World} (hn : ts.length < 1000000) (hl : name.length ≤ 65536) (h : WsIs w B wb tv xv ts) {r : Int} (hr : fnd (plain ts) name = r) :
    Calls Tryf.prog 18 #[.agg #[tv, xv], strV name] w fun e w' => e = .returned (.int .i64 r) ∧ Below w.heap.size w w' := by
  have K := find_any B tv xv ts name w (by omega) hl h.tabs h.ix
  rw [hr] at K
  refine K.mono ?_
  rintro e w' ⟨rfl, rfl⟩
  exact ⟨rfl, (Below.refl _ w).alloc (Nat.le_refl _) _⟩

set_option maxHeartbeats 2000000 in
set_option maxRecDepth 100000 in
theorem table_old (B wb g n cap i : Nat) (xv : Value) (ts : List MTab) (name : List UInt8) (w : World) (hB : B ≤ w.heap.size) (hn : ts.length < 1000000) (hl : name.length ≤ 65536) (en : n = ts.length) (h : WsIs w B wb (.slice (some ⟨g, 0, none⟩) n cap) xv ts) (hf : findT (plain ts) name = some i) :
    Calls Tryf.prog 19 #[.pointer (some ⟨wb, 0, none⟩), strV name] w fun e w' => GotTable e w w' B wb ts name := by
  have K := find_off hn hl h (fnd_some hf)
  have hi := findT_len hf
  rw [plain_length] at hi
  have hi' : i < n := by omega
  have hnn : n < 1000000 := by omega
  have c0 : w.cell? ⟨wb, 0, none⟩ = some (.slice (some ⟨g, 0, none⟩) n cap) := h.row.cell (i := 0) (by decide)
  have c1 : w.cell? ⟨wb, 1, none⟩ = some xv := h.row.cell (i := 1) (by decide)
  have HH : Hid (∀ w', Below w.heap.size w w' → GotTable (.returned (.pointer (some ⟨g, i * 4, none⟩))) w w' B wb ts name) := fun w' hb => gotTable_old (h.of_below hb) en (hb.mono hB) (Keep63.of_below hb) hf
  clear h hf hl en hn hi
  unfold strV at K ⊢
  go_enter Tryf.func19, Tryf.ntmps19
  go_wp2_with fail
  refine K.mono ?_
  rintro e' w1 ⟨rfl, hb⟩
  have c0' : w1.cell? ⟨wb, 0, none⟩ = some (.slice (some ⟨g, 0, none⟩) n cap) := laterCell hb c0
  have HX : Hid (GotTable (.returned (.pointer (some ⟨g, i * 4, none⟩))) w w1 B wb ts name) := HH.out w1 hb
  clear K hb HH c0 c1
  go_wp2
  go_ret
  exact HX.out

set_option maxHeartbeats 2000000 in
set_option maxRecDepth 100000 in
theorem table_reslice (B wb g n cap : Nat) (xv : Value) (ts : List MTab) (name : List UInt8) (w : World) (hB : B ≤ w.heap.size) (hn : ts.length < 1000000) (hl : name.length ≤ 65536) (en : n = ts.length) (h : WsIs w B wb (.slice (some ⟨g, 0, none⟩) n cap) xv ts) (hf : findT (plain ts) name = none) (hc : n < cap) :
    Calls Tryf.prog 19 #[.pointer (some ⟨wb, 0, none⟩), strV name] w fun e w' => GotTable e w w' B wb ts name := by
  have K := find_off hn hl h (fnd_none hf)
  have hnn : n < 1000000 := by omega
  have c0 : w.cell? ⟨wb, 0, none⟩ = some (.slice (some ⟨g, 0, none⟩) n cap) := h.row.cell (i := 0) (by decide)
  have c1 : w.cell? ⟨wb, 1, none⟩ = some xv := h.row.cell (i := 1) (by decide)
  have HH : Hid (WsIs w B wb (.slice (some ⟨g, 0, none⟩) n cap) xv ts) := h
  have HF : Hid (findT (plain ts) name = none) := hf
  have HN : Hid (ts.length < 1000000 ∧ n = ts.length ∧ name.length ≤ 65536) := ⟨hn, en, hl⟩
  clear h hf hl en hn
  unfold strV at K ⊢
  go_enter Tryf.func19, Tryf.ntmps19
  go_wp2_with fail
  refine K.mono ?_
  rintro e' w1 ⟨rfl, hb⟩
  have H1 := HH.out.of_below hb
  have c0' : w1.cell? ⟨wb, 0, none⟩ = some (.slice (some ⟨g, 0, none⟩) n cap) := H1.row.cell (i := 0) (by decide)
  have f0' : w1.frozen? ⟨wb, 0, none⟩ = false := H1.row.frozen 0
  have K28 := added_reslice (Nat.le_trans hB hb.size) H1 (hb.mono hB) (Keep63.of_below hb) HN.out.1 HN.out.2.1 HN.out.2.2 HF.out hc
  unfold strV at K28
  have cg : (w1.setCell ⟨wb, 0, none⟩ (.slice (some ⟨g, 0, none⟩) (n + 1) cap)).cell? ⟨g, n * 4, none⟩ = some (.string ByteArray.empty) ∧ (w1.setCell ⟨wb, 0, none⟩ (.slice (some ⟨g, 0, none⟩) (n + 1) cap)).frozen? ⟨g, n * 4, none⟩ = false ∧
      ((w1.setCell ⟨wb, 0, none⟩ (.slice (some ⟨g, 0, none⟩) (n + 1) cap)).setCell ⟨g, n * 4, none⟩ (.string ⟨name.toArray⟩)).cell? ⟨wb, 0, none⟩ = some (.slice (some ⟨g, 0, none⟩) (n + 1) cap) := by
    obtain ⟨cw, hcw, _⟩ := H1.row
    rcases H1.tabs.row with ⟨q, _⟩ | ⟨g', cap', e, _, _, hrow⟩
    · cases q
    · simp only [Value.slice.injEq, Option.some.injEq, Addr.mk.injEq] at e
      obtain ⟨⟨rfl, _⟩, _, rfl⟩ := e
      have hne : g ≠ wb := fun e => by
        obtain ⟨c2, h2, _⟩ := hrow
        subst e
        rw [hcw] at h2
        simp at h2
      have hrow' := hrow.setOther (a := ⟨wb, 0, none⟩) hne (.slice (some ⟨g, 0, none⟩) (n + 1) cap)
      refine ⟨?_, hrow'.frozen _, ?_⟩
      · rw [hrow'.cell (by omega), HN.out.2.1]
        simp only [Nat.lt_irrefl, if_false, Nat.mul_mod_left]
        rfl
      · have h3 := ((H1.row.set 0 (.slice (some ⟨g, 0, none⟩) (n + 1) cap)).setOther (a := ⟨g, n * 4, none⟩) hne.symm (.string ⟨name.toArray⟩)).cell (i := 0) (by decide)
        simpa using h3
  obtain ⟨cg1, cg2, cw0⟩ := cg
  clear K hb HH HF HN H1 c0 c1
  go_wp2_with fail
  go_region_held3 (fun w' => w'.cell? ⟨wb, 0, none⟩ = some (.slice (some ⟨g, 0, none⟩) (n + 1) cap)) (first | go_keep | assumption)
    (first | (go_at_call 28; refine K28.mono ?_; rintro e w3 ⟨rfl, c3, h3⟩))
  have HX : Hid (GotTable (.returned (.pointer (some ⟨g, n * 4, none⟩))) w w3 B wb ts name) := h3
  clear h3 K28 cg1 cg2 cw0 c0' f0'
  go_wp2
  go_ret
  exact HX.out

theorem cell_setCell_here {w : World} {b o : Nat} {v : Value} (h : w.cell? ⟨b, o, none⟩ = some v) (u : Value) : (w.setCell ⟨b, o, none⟩ u).cell? ⟨b, o, none⟩ = some u := World.cell?_setCell_same _ _ _ h

set_option maxHeartbeats 2000000 in
set_option maxRecDepth 100000 in
theorem table_full (B wb g n : Nat) (xv : Value) (ts : List MTab) (name : List UInt8) (w : World) (hB : B ≤ w.heap.size) (hn : ts.length < 1000000) (hl : name.length ≤ 65536) (en : n = ts.length) (h : WsIs w B wb (.slice (some ⟨g, 0, none⟩) n n) xv ts) (hf : findT (plain ts) name = none) :
    Calls Tryf.prog 19 #[.pointer (some ⟨wb, 0, none⟩), strV name] w fun e w' => GotTable e w w' B wb ts name := by
  have K := find_off hn hl h (fnd_none hf)
  have hnn : n < 1000000 := by omega
  have c0 : w.cell? ⟨wb, 0, none⟩ = some (.slice (some ⟨g, 0, none⟩) n n) := h.row.cell (i := 0) (by decide)
  have c1 : w.cell? ⟨wb, 1, none⟩ = some xv := h.row.cell (i := 1) (by decide)
  have HH : Hid (WsIs w B wb (.slice (some ⟨g, 0, none⟩) n n) xv ts) := h
  have HF : Hid (findT (plain ts) name = none) := hf
  have HN : Hid (ts.length < 1000000 ∧ n = ts.length ∧ name.length ≤ 65536) := ⟨hn, en, hl⟩
  clear h hf hl en hn
  unfold strV at K ⊢
  go_enter Tryf.func19, Tryf.ntmps19
  go_wp2_with fail
  refine K.mono ?_
  rintro e' w1 ⟨rfl, hb⟩
  have HB : Hid (Below w.heap.size w w1) := hb
  have H1 : Hid (WsIs w1 B wb (.slice (some ⟨g, 0, none⟩) n n) xv ts) := HH.out.of_below hb
  have c0' : w1.cell? ⟨wb, 0, none⟩ = some (.slice (some ⟨g, 0, none⟩) n n) := H1.out.row.cell (i := 0) (by decide)
  have HR : Hid (Rows (w1.alloc (.cells #[.string ⟨name.toArray⟩, .bool false, .slice none 0 0, .map none] 54)) 54 4 tabZ (tabCell 4 ts) (.slice (some ⟨g, 0, none⟩) n n) ts.length) := (H1.out.of_below ((Below.refl _ _).alloc (Nat.le_refl _) _)).tabs.row
  clear K hb HH c0 c1
  go_wp2_with (at_builtin; refine wpList_append_rows rfl (.tmp 47) (.tmp 50) 28 rfl 54 4 tabZ kept54 (by decide) Tryf.underlying28 (.slice (some ⟨g, 0, none⟩) n n) ts.length (tabCell 4 ts) rfl HR.out ⟨w1.heap.size, 0, none⟩ 1 rfl (tabF (newTab name)) ?cc ?co (Nat.le_of_lt HN.out.1) ?_)
  case cc => exact fun k hk => (new_cell w1 _ 54 k).trans (by rcases (by omega : k = 0 ∨ k = 1 ∨ k = 2 ∨ k = 3) with rfl | rfl | rfl | rfl <;> rfl)
  case co => exact fun k hk => by rcases (by omega : k = 0 ∨ k = 1 ∨ k = 2 ∨ k = 3) with rfl | rfl | rfl | rfl <;> rfl
  intro tv' w2 hg
  obtain ⟨g2, cap2, rfl, hcap2, _⟩ := hg.rows.at (by omega)
  rw [← HN.out.2.1] at hcap2
  have hcap2' : n < cap2 := hcap2
  have e1 : ts.length + 1 = n + 1 := by rw [← HN.out.2.1]
  rw [e1] at hg ⊢
  have hK := added_append (w := w) (n := n) (g := g2) (cap := cap2) (Nat.le_trans hB HB.out.size) H1.out (HB.out.mono hB) (Keep63.of_below HB.out) HN.out.1 HN.out.2.1 HN.out.2.2 HF.out ((Below.refl _ _).alloc (Nat.le_refl _) _) hg
  obtain ⟨⟨c2, f2⟩, K28'⟩ := hK
  have K28 : Calls Tryf.prog 28 #[.pointer (some ⟨wb, 1, none⟩), .slice (some ⟨g2, 0, none⟩) (n + 1) cap2, .func (.func 27) #[] #[]] (w2.setCell ⟨wb, 0, none⟩ (.slice (some ⟨g2, 0, none⟩) (n + 1) cap2)).drew fun e w' => e = .returned (.tuple #[]) ∧
      w'.cell? ⟨wb, 0, none⟩ = some (.slice (some ⟨g2, 0, none⟩) (n + 1) cap2) ∧ GotTable (.returned (.pointer (some ⟨g2, n * 4, none⟩))) w w' B wb ts name := K28'
  clear K28'
  have c2' : (w2.setCell ⟨wb, 0, none⟩ (.slice (some ⟨g2, 0, none⟩) (n + 1) cap2)).cell? ⟨wb, 0, none⟩ = some (.slice (some ⟨g2, 0, none⟩) (n + 1) cap2) := cell_setCell_here c2 _
  clear hg HR H1 HF HN HB hcap2
  go_wp2_with fail
  go_region_held3 (fun w' => w'.cell? ⟨wb, 0, none⟩ = some (.slice (some ⟨g2, 0, none⟩) (n + 1) cap2)) (first | go_keep | assumption)
    (first | (go_at_call 28; refine K28.mono ?_; rintro e w3 ⟨rfl, c3, h3⟩))
  have HX : Hid (GotTable (.returned (.pointer (some ⟨g2, n * 4, none⟩))) w w3 B wb ts name) := h3
  clear h3 K28 c2 f2 c0' c2'
  go_wp2
  go_ret
  exact HX.out

set_option maxHeartbeats 2000000 in
set_option maxRecDepth 100000 in
theorem table_nil (B wb : Nat) (xv : Value) (ts : List MTab) (name : List UInt8) (w : World) (hB : B ≤ w.heap.size) (hn : ts.length < 1000000) (hl : name.length ≤ 65536) (en : 0 = ts.length) (h : WsIs w B wb (.slice none 0 0) xv ts) (hf : findT (plain ts) name = none) :
    Calls Tryf.prog 19 #[.pointer (some ⟨wb, 0, none⟩), strV name] w fun e w' => GotTable e w w' B wb ts name := by
  have K := find_off hn hl h (fnd_none hf)
  have hnn : 0 < 1000000 := by omega
  have c0 : w.cell? ⟨wb, 0, none⟩ = some (.slice none 0 0) := h.row.cell (i := 0) (by decide)
  have c1 : w.cell? ⟨wb, 1, none⟩ = some xv := h.row.cell (i := 1) (by decide)
  have HH : Hid (WsIs w B wb (.slice none 0 0) xv ts) := h
  have HF : Hid (findT (plain ts) name = none) := hf
  have HN : Hid (ts.length < 1000000 ∧ 0 = ts.length ∧ name.length ≤ 65536) := ⟨hn, en, hl⟩
  clear h hf hl en hn
  unfold strV at K ⊢
  go_enter Tryf.func19, Tryf.ntmps19
  go_wp2_with fail
  refine K.mono ?_
  rintro e' w1 ⟨rfl, hb⟩
  have HB : Hid (Below w.heap.size w w1) := hb
  have H1 : Hid (WsIs w1 B wb (.slice none 0 0) xv ts) := HH.out.of_below hb
  have c0' : w1.cell? ⟨wb, 0, none⟩ = some (.slice none 0 0) := H1.out.row.cell (i := 0) (by decide)
  have HR : Hid (Rows (w1.alloc (.cells #[.string ⟨name.toArray⟩, .bool false, .slice none 0 0, .map none] 54)) 54 4 tabZ (tabCell 4 ts) (.slice none 0 0) ts.length) := (H1.out.of_below ((Below.refl _ _).alloc (Nat.le_refl _) _)).tabs.row
  clear K hb HH c0 c1
  go_wp2_with (at_builtin; refine wpList_append_rows rfl (.tmp 47) (.tmp 50) 28 rfl 54 4 tabZ kept54 (by decide) Tryf.underlying28 (.slice none 0 0) ts.length (tabCell 4 ts) rfl HR.out ⟨w1.heap.size, 0, none⟩ 1 rfl (tabF (newTab name)) ?cc ?co (Nat.le_of_lt HN.out.1) ?_)
  case cc => exact fun k hk => (new_cell w1 _ 54 k).trans (by rcases (by omega : k = 0 ∨ k = 1 ∨ k = 2 ∨ k = 3) with rfl | rfl | rfl | rfl <;> rfl)
  case co => exact fun k hk => by rcases (by omega : k = 0 ∨ k = 1 ∨ k = 2 ∨ k = 3) with rfl | rfl | rfl | rfl <;> rfl
  intro tv' w2 hg
  obtain ⟨g2, cap2, rfl, hcap2, _⟩ := hg.rows.at (by omega)
  rw [← HN.out.2.1] at hcap2
  have hcap2' : 0 < cap2 := hcap2
  have e1 : ts.length + 1 = 1 := by rw [← HN.out.2.1]
  rw [e1] at hg ⊢
  have hK := added_append (w := w) (n := 0) (g := g2) (cap := cap2) (Nat.le_trans hB HB.out.size) H1.out (HB.out.mono hB) (Keep63.of_below HB.out) HN.out.1 HN.out.2.1 HN.out.2.2 HF.out ((Below.refl _ _).alloc (Nat.le_refl _) _) hg
  obtain ⟨⟨c2, f2⟩, K28'⟩ := hK
  have K28 : Calls Tryf.prog 28 #[.pointer (some ⟨wb, 1, none⟩), .slice (some ⟨g2, 0, none⟩) (1) cap2, .func (.func 27) #[] #[]] (w2.setCell ⟨wb, 0, none⟩ (.slice (some ⟨g2, 0, none⟩) (1) cap2)).drew fun e w' => e = .returned (.tuple #[]) ∧
      w'.cell? ⟨wb, 0, none⟩ = some (.slice (some ⟨g2, 0, none⟩) (1) cap2) ∧ GotTable (.returned (.pointer (some ⟨g2, 0, none⟩))) w w' B wb ts name := K28'
  clear K28'
  have c2' : (w2.setCell ⟨wb, 0, none⟩ (.slice (some ⟨g2, 0, none⟩) (1) cap2)).cell? ⟨wb, 0, none⟩ = some (.slice (some ⟨g2, 0, none⟩) (1) cap2) := cell_setCell_here c2 _
  clear hg HR H1 HF HN HB hcap2
  go_wp2_with fail
  go_region_held3 (fun w' => w'.cell? ⟨wb, 0, none⟩ = some (.slice (some ⟨g2, 0, none⟩) (1) cap2)) (first | go_keep | assumption)
    (first | (go_at_call 28; refine K28.mono ?_; rintro e w3 ⟨rfl, c3, h3⟩))
  have HX : Hid (GotTable (.returned (.pointer (some ⟨g2, 0, none⟩))) w w3 B wb ts name) := h3
  clear h3 K28 c2 f2 c0' c2'
  go_wp2
  go_ret
  exact HX.out

theorem table_any (B wb : Nat) (tv xv : Value) (ts : List MTab) (name : List UInt8) (w : World) (hB : B ≤ w.heap.size) (hn : ts.length < 1000000) (hl : name.length ≤ 65536) (h : WsIs w B wb tv xv ts) :
    Calls Tryf.prog 19 #[.pointer (some ⟨wb, 0, none⟩), strV name] w fun e w' => GotTable e w w' B wb ts name := by
  rcases h.tabs.row with ⟨rfl, h0⟩ | ⟨g, cap, rfl, hc, _⟩
  · obtain rfl : ts = [] := List.eq_nil_of_length_eq_zero h0
    exact table_nil B wb xv [] name w hB hn hl rfl h rfl
  · cases hf : findT (plain ts) name with
    | some i => exact table_old B wb g ts.length cap i xv ts name w hB hn hl rfl h hf
    | none =>
      by_cases hlt : ts.length < cap
      · exact table_reslice B wb g ts.length cap xv ts name w hB hn hl rfl h hf hlt
      · obtain rfl : cap = ts.length := by omega
        exact table_full B wb g ts.length xv ts name w hB hn hl rfl h hf
end Go.Proofs.Qxb6616086aFmt

import Derived.Test.Qxb6616086aFmtSt2
/-! THE WALK of zzSameTables. -/
namespace Go.Proofs.Qxb6616086aFmt
open Go.RowKit Go.Maps

theorem neq9 (s : ByteArray) (w : World) : (binOp .neq 9 (.string s) (.string s)).run Tryf.prog w = .ok (.bool false) w := by
  go_simp
theorem neq4 (d : Bool) (w : World) : (binOp .neq 4 (.bool d) (.bool d)).run Tryf.prog w = .ok (.bool false) w := by
  cases d <;> kernel_rfl

set_option maxHeartbeats 4000000 in
set_option maxRecDepth 100000 in
theorem sameTables_any (B1 B2 : Nat) (gv wv : Value) (ts1 ts2 : List MTab) (w : World) (h1 : TabsIs w B1 42 3 51 gv ts1) (h2 : TabsIs w B2 42 3 51 wv ts2) (hpl : plain ts1 = plain ts2) (hl : ts1.length ≤ 65536) (hcl : ∀ i, (tabAt ts1 i).cs.length ≤ 65536) :
    Calls Tryf.prog 10 #[gv, wv] w fun e w' => e = .returned (.bool true) ∧ Below w.heap.size w w' := by
  have hlen : ts1.length = ts2.length := by have := congrArg List.length hpl; rwa [plain_length, plain_length] at this
  obtain ⟨a1, c1, rfl⟩ := rows_shape h1.row
  obtain ⟨a2, c2, rfl⟩ := rows_shape h2.row
  rw [← hlen] at h2 ⊢
  obtain ⟨n, en⟩ : ∃ n, n = ts1.length := ⟨_, rfl⟩
  rw [← en] at h1 h2 hl ⊢
  have H1 : Hid (TabsIs w B1 42 3 51 (.slice a1 n c1) ts1) := h1
  have H2 : Hid (TabsIs w B2 42 3 51 (.slice a2 n c2) ts2) := h2
  have HP : Hid (plain ts1 = plain ts2 ∧ n = ts1.length ∧ (∀ i, (tabAt ts1 i).cs.length ≤ 65536) ∧ n = ts2.length) := ⟨hpl, en, hcl, by omega⟩
  have q9 := neq9
  have q4 := neq4
  clear h1 h2 hpl en hcl hlen
  go_enter Tryf.func10, Tryf.ntmps10
  go_wp2
  go_loopw [5] (fun i wr => ∃ k : Nat, i = .int .i64 k ∧ k ≤ n ∧ Hid (Below w.heap.size w wr)) (fun i _ => n - (intOf i).toNat)
  case atStart => exact ⟨0, rfl, Nat.zero_le _, Below.refl _ _⟩
  case round =>
    obtain ⟨k, rfl, hk, HB⟩ := hrel
    by_cases hlt : k < n
    · obtain ⟨g1, cap1, e1, t1⟩ := H1.out.row.at (by have := HP.out.2.1; omega)
      obtain ⟨g2, cap2, e2, t2⟩ := H2.out.row.at (by have := HP.out.2.2.2; omega)
      simp only [Value.slice.injEq] at e1 e2
      obtain ⟨rfl, z1, rfl⟩ := e1
      obtain ⟨rfl, z2, rfl⟩ := e2
      clear z1 z2 t1 t2
      obtain ⟨nm, d, m, b1, b2, ep1, ep2, cs1, cs2, hA⟩ := alike_of H1.out H2.out HP.out.1 HP.out.2.1 HP.out.2.2.1 hlt
      have HA : Hid (Alike w g1 g2 k nm d m b1 b2 ep1 ep2 cs1 cs2 B1 B2) := hA
      have x1 := laterCell HB.out hA.n1
      have x2 := laterCell HB.out hA.n2
      have x3 := laterCell HB.out hA.d1
      have x4 := laterCell HB.out hA.d2
      have x5 := laterCell HB.out hA.c1
      have x6 := laterCell HB.out hA.c2
      have hm := hA.le
      have i0 : (0 : Int) ≤ (k : Int) := by omega
      have i1 : (k : Int) < (n : Int) := by omega
      clear hA
      go_wp2
      go_quiet (fail)
      clear x1 x2 x3 x4 x5 x6
      go_wp2
      go_loopw [6] (fun i wi => ∃ j : Nat, i = .int .i64 j ∧ j ≤ m ∧ Hid (Below w.heap.size w wi)) (fun i _ => m - (intOf i).toNat)
      case atStart => exact ⟨0, rfl, Nat.zero_le _, HB.out.trans ((drewN_below rfl).mono HB.out.size)⟩
      case round =>
        clear HB
        obtain ⟨j, rfl, hj, HB⟩ := hrel
        have x5 := laterCell HB.out HA.out.c1
        have x6 := laterCell HB.out HA.out.c2
        by_cases hjm : j < m
        · obtain ⟨f1, cp1, e1, t1⟩ := HA.out.r1.at (by omega)
          obtain ⟨f2, cp2, e2, t2⟩ := HA.out.r2.at (by omega)
          simp only [Value.slice.injEq] at e1 e2
          obtain ⟨rfl, z1, rfl⟩ := e1
          obtain ⟨rfl, z2, rfl⟩ := e2
          clear z1 z2 t1 t2
          have hv1 := HA.out.v1 j hjm
          have hv2 := HA.out.v2 j hjm
          obtain ⟨p1, l1, q1, ev1⟩ := val_shape hv1
          obtain ⟨p2, l2, q2, ev2⟩ := val_shape hv2
          have hpl := HA.out.pl j
          obtain ⟨ky, eky⟩ : ∃ ky, ky = (chgAt cs1 j).key := ⟨_, rfl⟩
          obtain ⟨dl, edl⟩ : ∃ dl, dl = (chgAt cs1 j).del := ⟨_, rfl⟩
          have ek2 : ky = (chgAt cs2 j).key := by rw [eky]; exact congrArg PChg.key hpl
          have ed2 : dl = (chgAt cs2 j).del := by rw [edl]; exact congrArg PChg.del hpl
          have y1 : wr.cell? ⟨f1, j * 3, none⟩ = some (.string ⟨ky.toArray⟩) := by rw [eky]; exact laterCell HB.out (chg_cells51 HA.out.r1 hjm (i := 0) (by decide))
          have y2 : wr.cell? ⟨f1, j * 3 + 1, none⟩ = some (.slice p1 l1 q1) := by rw [← ev1]; exact laterCell HB.out (chg_cells51 HA.out.r1 hjm (i := 1) (by decide))
          have y3 : wr.cell? ⟨f1, j * 3 + 2, none⟩ = some (.bool dl) := by rw [edl]; exact laterCell HB.out (chg_cells51 HA.out.r1 hjm (i := 2) (by decide))
          have hb1 : Below wr.heap.size wr (wr.alloc (.cells #[.string ⟨ky.toArray⟩, .slice p1 l1 q1, .bool dl] 51)) := (Below.refl _ wr).alloc (Nat.le_refl _) _
          have hB1 : Below w.heap.size w (wr.alloc (.cells #[.string ⟨ky.toArray⟩, .slice p1 l1 q1, .bool dl] 51)) := HB.out.trans (hb1.mono HB.out.size)
          have y4 : (wr.alloc (.cells #[.string ⟨ky.toArray⟩, .slice p1 l1 q1, .bool dl] 51)).cell? ⟨f2, j * 3, none⟩ = some (.string ⟨ky.toArray⟩) := (laterCell hB1 (chg_cells51 HA.out.r2 hjm (i := 0) (by decide))).trans (by rw [ek2]; rfl)
          have y5 : (wr.alloc (.cells #[.string ⟨ky.toArray⟩, .slice p1 l1 q1, .bool dl] 51)).cell? ⟨f2, j * 3 + 1, none⟩ = some (.slice p2 l2 q2) := by rw [← ev2]; exact laterCell hB1 (chg_cells51 HA.out.r2 hjm (i := 1) (by decide))
          have y6 : (wr.alloc (.cells #[.string ⟨ky.toArray⟩, .slice p1 l1 q1, .bool dl] 51)).cell? ⟨f2, j * 3 + 2, none⟩ = some (.bool dl) := (laterCell hB1 (chg_cells51 HA.out.r2 hjm (i := 2) (by decide))).trans (by rw [ed2]; rfl)
          have y7 := laterCell hB1 HA.out.c2
          have hB2 : Below w.heap.size w ((wr.alloc (.cells #[.string ⟨ky.toArray⟩, .slice p1 l1 q1, .bool dl] 51)).alloc (.cells #[.string ⟨ky.toArray⟩, .slice p2 l2 q2, .bool dl] 51)) := hB1.alloc hB1.size _
          have K17 := same_vals (hv1.of_below hB2) (hv2.of_below hB2) (congrArg PChg.val hpl)
          rw [ev1, ev2] at K17
          have HB2 : Hid (Below w.heap.size w ((wr.alloc (.cells #[.string ⟨ky.toArray⟩, .slice p1 l1 q1, .bool dl] 51)).alloc (.cells #[.string ⟨ky.toArray⟩, .slice p2 l2 q2, .bool dl] 51))) := hB2
          have j0 : (0 : Int) ≤ (j : Int) := by omega
          have j1 : (j : Int) < (m : Int) := by omega
          clear hv1 hv2 hpl ev1 ev2 eky edl ek2 ed2 hb1 hB1 hB2
          go_wp2_with fail
          refine K17.mono ?_
          rintro e' w3 ⟨rfl, hb3⟩
          have HB3 : Hid (Below w.heap.size w w3) := HB2.out.trans (hb3.mono HB2.out.size)
          clear K17 hb3 HB2 y1 y2 y3 y4 y5 y6 y7 x5 x6
          go_wp2
          go_roundw
          case rel => exact ⟨j + 1, by go_num, by omega, HB3⟩
          case measure => simp [intOf]; omega
        · go_wp2
          go_roundw
          case rel => exact ⟨k + 1, by go_num, by omega, HB⟩
          case measure => simp [intOf]; omega
    · go_wp2
      go_ret
      exact ⟨rfl, HB.out⟩
end Go.Proofs.Qxb6616086aFmt

import Derived.Test.Qxb6616086aFmtMs
/-! THE WALK of zzDecodeModel. -/
namespace Go.Proofs.Qxb6616086aFmt
open Go.RowKit

theorem pay_of {w wr : World} {pb : Nat} {b : List UInt8} (hp : BytesAt w pb b) (hb : Below w.heap.size w wr) : PayIs wr pb b := fun i hi => by
  have h := hp.cell hi
  rw [hb.cell (p := ⟨pb, i, none⟩) hp.lt]
  exact h

/-- zzField by its contract, where there is a field and where there is none. -/
theorem field_some {wr : World} {pb : Nat} {b : List UInt8} {p s e : Nat} (hN : b.length ≤ 65536) (hp : p ≤ b.length) (hc : PayIs wr pb b) (hf : fieldAt b p = some (s, e)) :
    Calls Tryf.prog 13 #[.slice (some ⟨pb, 0, none⟩) b.length b.length, .int .i64 p] wr fun e' w' => e' = .returned (.tuple #[.int .i64 s, .int .i64 e, .bool true]) ∧ w' = wr := by
  have h := zzField_any pb b p b.length wr hN hp hc
  have er : fieldRet b p = .tuple #[.int .i64 s, .int .i64 e, .bool true] := by unfold fieldRet; rw [hf]
  rw [er] at h
  exact h
theorem field_none {wr : World} {pb : Nat} {b : List UInt8} {p : Nat} (hN : b.length ≤ 65536) (hp : p ≤ b.length) (hc : PayIs wr pb b) (hf : fieldAt b p = none) :
    Calls Tryf.prog 13 #[.slice (some ⟨pb, 0, none⟩) b.length b.length, .int .i64 p] wr fun e' w' => e' = .returned (.tuple #[.int .i64 p, .int .i64 p, .bool false]) ∧ w' = wr := by
  have h := zzField_any pb b p b.length wr hN hp hc
  have er : fieldRet b p = .tuple #[.int .i64 p, .int .i64 p, .bool false] := by unfold fieldRet; rw [hf]
  rw [er] at h
  exact h

theorem uv_some {wr : World} {pb : Nat} {b : List UInt8} {p n q : Nat} (hN : b.length ≤ 65536) (hp : p ≤ b.length) (hc : PayIs wr pb b) (hf : uvAt b p = some (n, q)) :
    Calls Tryf.prog 15 #[.slice (some ⟨pb, 0, none⟩) b.length b.length, .int .i64 p] wr fun e' w' => e' = .returned (.tuple #[.int .u64 n, .int .i64 q, .bool true]) ∧ w' = wr := by
  have h := zzUv_any pb b p b.length wr hN hp hc
  have er : uvRet b p = .tuple #[.int .u64 n, .int .i64 q, .bool true] := by unfold uvRet; rw [hf]
  rw [er] at h
  exact h
theorem uv_none {wr : World} {pb : Nat} {b : List UInt8} {p : Nat} (hN : b.length ≤ 65536) (hp : p ≤ b.length) (hc : PayIs wr pb b) (hf : uvAt b p = none) :
    Calls Tryf.prog 15 #[.slice (some ⟨pb, 0, none⟩) b.length b.length, .int .i64 p] wr fun e' w' => e' = .returned (.tuple #[.int .u64 0, .int .i64 p, .bool false]) ∧ w' = wr := by
  have h := zzUv_any pb b p b.length wr hN hp hc
  have er : uvRet b p = .tuple #[.int .u64 0, .int .i64 p, .bool false] := by unfold uvRet; rw [hf]
  rw [er] at h
  exact h

theorem conv_str {w : World} {pb : Nat} {b : List UInt8} (hp : PayIs w pb b) {s e : Nat} (hse : s ≤ e) (he : e ≤ b.length) {A : Addr} {C : Nat} (hA : s < b.length → A = ⟨pb, s, none⟩) :
    (convert 22 9 (.slice (some A) (e - s) C)).run Tryf.prog w = .ok (.string ⟨(sub b s e).toArray⟩) w := conv_sub hp hse he hA

/-- zzClone(b[s:e]). -/
theorem clone_sub {w : World} {pb : Nat} {b : List UInt8} {s e : Nat} {A : Addr} (C : Nat) (hp : PayIs w pb b) (he : e ≤ b.length) (hN : b.length ≤ 65536) (hA : s < b.length → A = ⟨pb, s, none⟩) :
    Calls Tryf.prog 6 #[.slice (some A) (e - s) C] w fun e' w' => Cloned e' w w' (sub b s e) := by
  have h := zzClone_any A C (sub b s e) w (by rw [sub_len he]; omega) (sub_cells hp he hA)
  rw [sub_len he] at h
  exact h

theorem val_bytes {w : World} {B g : Nat} {l : List UInt8} (k : List UInt8) (d : Bool) (h : BytesAt w g l) (hB : B ≤ g) (hl : l.length ≤ 65536) : ValIs w B ⟨k, .slice (some ⟨g, 0, none⟩) l.length l.length, some l, d⟩ := by
  obtain ⟨cs, h1, h2, h3⟩ := h
  exact ⟨hl, g, l.length, cs, rfl, hB, h1, h3⟩

theorem ValIs.of_below {w w' : World} {B : Nat} {c : MChg} (h : ValIs w B c) (hb : Below w.heap.size w w') : ValIs w' B c := h.kept fun b _ _ hc => hb.block b (Array.getElem?_eq_some_iff.1 hc).1

set_option maxHeartbeats 4000000 in
set_option maxRecDepth 100000 in
theorem model_any (pb : Nat) (b : List UInt8) (w : World) (hN : b.length ≤ 65536) (hpay : BytesAt w pb b) :
    Calls Tryf.prog 7 #[.slice (some ⟨pb, 0, none⟩) b.length b.length] w fun e w' => GotModel e w w' b := by
  have HP : Hid (BytesAt w pb b) := hpay
  clear hpay
  go_enter Tryf.func7, Tryf.ntmps7
  go_wp2
  go_loopw [4, 5] (fun v x wr => ∃ (p t cnt : Nat) (ts : List MTab), x = .int .i64 p ∧ p ≤ b.length ∧ Hid (MSt w wr b 0 v ts p t cnt)) (fun _ x _ => b.length - (intOf x).toNat)
  case atStart => exact ⟨0, 0, 0, [], rfl, Nat.zero_le _, MSt.start w b⟩
  case round =>
    obtain ⟨p, t, cnt, ts, rfl, hp, HM⟩ := hrel
    by_cases hlt : p < b.length
    · have HPY : Hid (PayIs wr pb b) := pay_of HP.out HM.out.below
      cases hf : fieldAt b p with
      | none =>
        have K := field_none hN hp HPY.out hf
        have HF : Hid (fieldAt b p = none) := hf
        clear hf
        go_wp2_with fail
        refine K.mono ?_
        rintro e' w' ⟨rfl, ew⟩
        subst w'
        clear K
        go_wp2_with fail
        refine (tableAt_any w.heap.size u4 ts [] wr HM.out.below.size (by have := HM.out.len; omega) HM.out.tabs).mono ?_
        rintro e' w1 ⟨tv', ts', rfl, ht', hpl, hb', hlt'⟩
        have HE := HM.out.noName hlt HF.out ht' hpl hb'
        have HE' : Hid (GotModel (.returned (.tuple #[tv', .bool true])) w w1 b) := HE
        clear HE ht' hpl hb' HM HPY HF
        go_wp2
        go_ret2
        exact HE'.out
      | some f =>
        obtain ⟨s, e⟩ := f
        have hse := fieldAt_le hp hf
        have K := field_some hN hp HPY.out hf
        have HF : Hid (fieldAt b p = some (s, e)) := hf
        clear hf
        go_wp2_with fail
        refine K.mono ?_
        rintro e' w' ⟨rfl, ew⟩
        subst w'
        clear K
        go_wp2_with (refine wpList_sub rfl (.tmp 36) (.tmp 37) (.tmp 38) rfl pb b.length s e rfl rfl rfl hse.2.1 hse.2.2 hN ?_; intro A C hA; have hcv := conv_sub HPY.out hse.2.1 hse.2.2 (C := C) hA; clear hA)
        refine (tableAt_any w.heap.size u4 ts (sub b s e) wr HM.out.below.size (by have := HM.out.len; omega) HM.out.tabs).mono ?_
        rintro e' w1 ⟨tv', ts', rfl, ht', hpl, hb', hlt'⟩
        obtain ⟨t', et⟩ : ∃ t', t' = atT (plain ts) (sub b s e) := ⟨_, rfl⟩
        rw [← et] at hlt' ⊢
        have HPY1 : Hid (PayIs w1 pb b) := pay_of HP.out (HM.out.below.trans hb')
        cases hu : uvAt b e with
        | none =>
          have K := uv_none hN hse.2.2 HPY1.out hu
          have HE' : Hid (GotModel (.returned (.tuple #[tv', .bool true])) w w1 b) := HM.out.noCount hlt HF.out hu ht' hpl hb'
          clear ht' hpl hb' HM HPY HF hu hcv et
          go_wp2_with fail
          refine K.mono ?_
          rintro e' w' ⟨rfl, ew⟩
          subst w'
          clear K
          go_wp2
          go_ret2
          exact HE'.out
        | some u =>
          obtain ⟨n, q⟩ := u
          have K := uv_some hN hse.2.2 HPY1.out hu
          have hq := uvAt_le hse.2.2 hu
          have hn := uvAt_lt hu
          have HM1 : Hid (MSt w w1 b 1 tv' ts' q t' n) := by rw [et]; exact HM.out.enter hlt HF.out hu ht' hpl hb'
          obtain ⟨g, cap, etv, _⟩ := ht'.row.at (by omega)
          obtain ⟨m, em⟩ : ∃ m, m = ts'.length := ⟨_, rfl⟩
          rw [← em] at etv
          have HM' : Hid (ts'.length = m) := em.symm
          clear em
          subst etv
          have htm : t' < m := by rw [← HM'.out]; exact hlt'
          clear ht' hpl hb' HM HPY HF hu hcv et hlt'
          go_wp2_with fail
          refine K.mono ?_
          rintro e' w' ⟨rfl, ew⟩
          subst w'
          clear K
          go_wp2
          go_loopw [5, 11] (fun x c wi => ∃ (p cnt : Nat) (ts : List MTab), x = .int .i64 p ∧ c = .int .u64 cnt ∧ p ≤ b.length ∧ q ≤ p ∧ cnt < 18446744073709551616 ∧ Hid (ts.length = m) ∧ Hid (MSt w wi b 1 (.slice (some ⟨g, 0, none⟩) m cap) ts p t' cnt)) (fun x _ _ => b.length - (intOf x).toNat)
          case atStart => exact ⟨q, n, ts', rfl, rfl, hq.2, Nat.le_refl _, hn, HM', HM1⟩
          case round =>
            clear HM1 HM' HPY1
            obtain ⟨p2, cnt2, ts2, rfl, rfl, hp2, hqp, hcn, HL, HI⟩ := hrel
            by_cases hc0 : cnt2 = 0
            · subst hc0
              have HI' : Hid (MSt w wr b 0 (.slice (some ⟨g, 0, none⟩) m cap) ts2 p2 t' 0) := HI.out.leave
              clear HI
              go_wp2
              go_roundw
              case rel => exact ⟨p2, t', 0, ts2, rfl, hp2, HI'⟩
              case measure => simp [intOf]; omega
            · have hc1 : 0 < cnt2 := by omega
              by_cases hlt2 : p2 < b.length
              · have HPZ : Hid (PayIs wr pb b) := pay_of HP.out HI.out.below
                have ht2 : t' < ts2.length := by rw [HL.out]; exact htm
                have hcell := HPZ.out p2 hlt2
                obtain ⟨y, ey⟩ : ∃ y, y = (b.getD p2 0).toNat := ⟨_, rfl⟩
                have HY : Hid ((b.getD p2 0).toNat = y) := ey.symm
                rw [← ey] at hcell
                clear ey
                have hy : y < 256 := by rw [← HY.out]; exact (b.getD p2 0).toNat_lt
                by_cases hy3 : y = 3
                · subst hy3
                  have hc := row_cell HI.out.tabs.row rfl ht2 (k := 1) (by decide)
                  have hc1' : wr.cell? ⟨g, t' * 3 + 1, none⟩ = some (.bool (tabAt ts2 t').drop) := hc.1
                  have hf1 := hc.2
                  have HI' : Hid _ := HI.out.dropped hc0 hlt2 HY.out ht2 rfl
                  have HL' : Hid ((ts2.set t' { tabAt ts2 t' with drop := true }).length = m) := by show _ = _; rw [List.length_set]; exact HL.out
                  clear HI HL hc HPZ ht2
                  generalize (tabAt ts2 t').drop = d at hc1'
                  go_wp2
                  go_roundw
                  case rel => exact ⟨p2 + 1, cnt2 - 1, _, by go_num, by go_num, by omega, by omega, by omega, HL', HI'⟩
                  case measure => simp [intOf]; omega
                · have HV0 : ∀ (k : List UInt8) (d : Bool) (v : World), ValIs v w.heap.size ⟨k, .slice none 0 0, none, d⟩ := fun _ _ _ => rfl
                  have hcc := row_cell HI.out.tabs.row rfl ht2 (k := 2) (by decide)
                  obtain ⟨cv, ecv⟩ : ∃ cv, cv = (tabAt ts2 t').cv := ⟨_, rfl⟩
                  have hcv : wr.cell? ⟨g, t' * 3 + 2, none⟩ = some cv := by rw [ecv]; exact hcc.1
                  have HCV : Hid (cv = (tabAt ts2 t').cv) := ecv
                  clear hcc ecv
                  have HCL : Hid ((tabAt ts2 t').cs.length ≤ 1000000) := by have := HI.out.clen t'; show _ ≤ _; omega
                  cases hf : fieldAt b (p2 + 1) with
                  | none =>
                    have K := field_none (p := p2 + 1) hN (by omega) HPZ.out hf
                    by_cases hy2 : y = 2
                    · subst hy2
                      have HEC : Hid (EndsC b p2 ⟨[], none, true⟩) := del_ends hlt2 HY.out hf
                      have HF : Hid (fieldAt b (p2 + 1) = none) := hf
                      clear hf HPZ
                      go_wp2_with fail
                      refine K.mono ?_
                      rintro e' w' ⟨rfl, ew⟩
                      subst w'
                      clear K
                      go_wp2_with (at_builtin; refine wpList_append_rows rfl (.tmp 105) (.tmp 108) 40 rfl 51 3 chgZ kept51 (by decide) Tryf.underlying40 cv (tabAt ts2 t').cs.length (chgCell (tabAt ts2 t').cs) rfl ?rr ⟨wr.heap.size, 0, none⟩ 1 rfl (chgF ⟨[], .slice none 0 0, none, true⟩) ?cc ?co HCL.out ?_)
                      case rr => rw [HCV.out]; exact (HI.out.tabs.of_below ((Below.refl _ _).alloc (Nat.le_refl _) _)).chg t' ht2
                      case cc => exact fun k hk => (new_cell wr _ 51 k).trans (by rcases (by omega : k = 0 ∨ k = 1 ∨ k = 2) with rfl | rfl | rfl <;> rfl)
                      case co => exact fun k hk => by rcases (by omega : k = 0 ∨ k = 1 ∨ k = 2) with rfl | rfl | rfl <;> rfl
                      intro cv' w2 hg
                      rw [HCV.out] at hg
                      obtain ⟨g2, cap2, rfl, _⟩ := hg.rows.at (by omega)
                      have hpl := HI.out.place ht2 rfl _ ((Below.refl _ _).alloc (Nat.le_refl _) _) hg
                      have hp1 := hpl.1
                      have hp2' := hpl.2
                      have HE : Hid (GotModel (.returned (.tuple #[.slice (some ⟨g, 0, none⟩) m cap, .bool true])) w (w2.setCell ⟨g, t' * 3 + 2, none⟩ (.slice (some ⟨g2, 0, none⟩) ((tabAt ts2 t').cs.length + 1) cap2)) b) := HI.out.ended hc0 ht2 rfl _ ((Below.refl _ _).alloc (Nat.le_refl _) _) hg (HV0 _ _ _) HEC.out
                      rw [← HCV.out] at hp1
                      clear HI HL HCL HEC hpl HF HV0 hg
                      go_wp2
                      go_ret2
                      exact HE.out
                    · by_cases hy1 : y = 1
                      · subst hy1
                        have HEC : Hid (EndsC b p2 ⟨[], none, false⟩) := put_ends2 hlt2 HY.out hf
                        clear hf HPZ
                        go_wp2_with fail
                        refine K.mono ?_
                        rintro e' w' ⟨rfl, ew⟩
                        subst w'
                        clear K
                        go_wp2_with (at_builtin; refine wpList_append_rows rfl (.tmp 139) (.tmp 143) 40 rfl 51 3 chgZ kept51 (by decide) Tryf.underlying40 cv (tabAt ts2 t').cs.length (chgCell (tabAt ts2 t').cs) rfl ?rr ⟨wr.heap.size, 0, none⟩ 1 rfl (chgF ⟨[], .slice none 0 0, none, false⟩) ?cc ?co HCL.out ?_)
                        case rr => rw [HCV.out]; exact (HI.out.tabs.of_below ((Below.refl _ _).alloc (Nat.le_refl _) _)).chg t' ht2
                        case cc => exact fun k hk => (new_cell wr _ 51 k).trans (by rcases (by omega : k = 0 ∨ k = 1 ∨ k = 2) with rfl | rfl | rfl <;> rfl)
                        case co => exact fun k hk => by rcases (by omega : k = 0 ∨ k = 1 ∨ k = 2) with rfl | rfl | rfl <;> rfl
                        intro cv' w2 hg
                        rw [HCV.out] at hg
                        obtain ⟨g2, cap2, rfl, _⟩ := hg.rows.at (by omega)
                        have hpl := HI.out.place ht2 rfl _ ((Below.refl _ _).alloc (Nat.le_refl _) _) hg
                        have hp1 := hpl.1
                        have hp2' := hpl.2
                        have HE : Hid (GotModel (.returned (.tuple #[.slice (some ⟨g, 0, none⟩) m cap, .bool true])) w (w2.setCell ⟨g, t' * 3 + 2, none⟩ (.slice (some ⟨g2, 0, none⟩) ((tabAt ts2 t').cs.length + 1) cap2)) b) := HI.out.ended hc0 ht2 rfl _ ((Below.refl _ _).alloc (Nat.le_refl _) _) hg (HV0 _ _ _) HEC.out
                        rw [← HCV.out] at hp1
                        clear HI HL HCL HEC hpl HV0 hg 
                        go_wp2
                        go_ret2
                        exact HE.out
                      · have HE : Hid (GotModel (.returned (.tuple #[.slice (some ⟨g, 0, none⟩) m cap, .bool true])) w wr b) := HI.out.unknown hc0 hlt2 (by rw [HY.out]; exact hy1) (by rw [HY.out]; exact hy2) (by rw [HY.out]; exact hy3)
                        clear HI hf HPZ HCV HCL HL HY
                        go_wp2_with fail
                        refine K.mono ?_
                        rintro e' w' ⟨rfl, ew⟩
                        subst w'
                        clear K
                        go_wp2
                        go_ret2
                        exact HE.out
                  | some f =>
                    obtain ⟨s2, e2⟩ := f
                    have hse2 := fieldAt_le (p := p2 + 1) (by omega) hf
                    have K := field_some (p := p2 + 1) hN (by omega) HPZ.out hf
                    by_cases hy2 : y = 2
                    · subst hy2
                      have HTC : Hid (TakesC b p2 ⟨sub b s2 e2, none, true⟩ e2) := del_takes hlt2 HY.out hf
                      clear hf
                      go_wp2_with fail
                      refine K.mono ?_
                      rintro e' w' ⟨rfl, ew⟩
                      subst w'
                      clear K
                      go_wp2_with (first | (refine wpList_sub rfl (.tmp 91) (.tmp 92) (.tmp 93) rfl pb b.length s2 e2 rfl rfl rfl hse2.2.1 hse2.2.2 hN ?_; intro A C hA; have hcv2 := conv_str HPZ.out hse2.2.1 hse2.2.2 (C := C) hA; clear hA) | (at_builtin; refine wpList_append_rows rfl (.tmp 105) (.tmp 108) 40 rfl 51 3 chgZ kept51 (by decide) Tryf.underlying40 cv (tabAt ts2 t').cs.length (chgCell (tabAt ts2 t').cs) rfl ?rr ⟨wr.heap.size, 0, none⟩ 1 rfl (chgF ⟨sub b s2 e2, .slice none 0 0, none, true⟩) ?cc ?co HCL.out ?_))
                      case rr => rw [HCV.out]; exact (HI.out.tabs.of_below ((Below.refl _ _).alloc (Nat.le_refl _) _)).chg t' ht2
                      case cc => exact fun k hk => (new_cell wr _ 51 k).trans (by rcases (by omega : k = 0 ∨ k = 1 ∨ k = 2) with rfl | rfl | rfl <;> rfl)
                      case co => exact fun k hk => by rcases (by omega : k = 0 ∨ k = 1 ∨ k = 2) with rfl | rfl | rfl <;> rfl
                      intro cv' w2 hg
                      rw [HCV.out] at hg
                      obtain ⟨g2, cap2, rfl, _⟩ := hg.rows.at (by omega)
                      have hpl := HI.out.place ht2 rfl _ ((Below.refl _ _).alloc (Nat.le_refl _) _) hg
                      have hp1 := hpl.1
                      have hp2' := hpl.2
                      have HI' : Hid (MSt w (w2.setCell ⟨g, t' * 3 + 2, none⟩ (.slice (some ⟨g2, 0, none⟩) ((tabAt ts2 t').cs.length + 1) cap2)) b 1 (.slice (some ⟨g, 0, none⟩) m cap) (ts2.set t' { tabAt ts2 t' with cv := .slice (some ⟨g2, 0, none⟩) ((tabAt ts2 t').cs.length + 1) cap2, cs := (tabAt ts2 t').cs ++ [⟨sub b s2 e2, .slice none 0 0, none, true⟩] }) e2 t' (cnt2 - 1)) := HI.out.took hc0 ht2 rfl _ ((Below.refl _ _).alloc (Nat.le_refl _) _) hg (HV0 _ _ _) HTC.out (by omega)
                      have HL' : Hid ((ts2.set t' { tabAt ts2 t' with cv := .slice (some ⟨g2, 0, none⟩) ((tabAt ts2 t').cs.length + 1) cap2, cs := (tabAt ts2 t').cs ++ [⟨sub b s2 e2, .slice none 0 0, none, true⟩] }).length = m) := by show _ = _; rw [List.length_set]; exact HL.out
                      rw [← HCV.out] at hp1
                      clear HI HL HCL HTC hpl HV0 hg HPZ hcv2
                      go_wp2
                      go_roundw
                      case rel => exact ⟨e2, cnt2 - 1, _, by go_num, by go_num, by omega, by omega, by omega, HL', HI'⟩
                      case measure => simp [intOf]; omega
                    · by_cases hy1 : y = 1
                      · subst hy1
                        cases hf2 : fieldAt b e2 with
                        | none =>
                          have K2 := field_none hN hse2.2.2 HPZ.out hf2
                          have HEC : Hid (EndsC b p2 ⟨sub b s2 e2, none, false⟩) := put_ends hlt2 HY.out hf hf2
                          clear hf hf2
                          go_wp2_with fail
                          refine K.mono ?_
                          rintro e' w' ⟨rfl, ew⟩
                          subst w'
                          clear K
                          go_wp2_with (refine wpList_sub rfl (.tmp 91) (.tmp 92) (.tmp 93) rfl pb b.length s2 e2 rfl rfl rfl hse2.2.1 hse2.2.2 hN ?_; intro A C hA; have hcv2 := conv_str HPZ.out hse2.2.1 hse2.2.2 (C := C) hA; clear hA)
                          go_wp2_with fail
                          refine K2.mono ?_
                          rintro e' w' ⟨rfl, ew⟩
                          subst w'
                          clear K2
                          go_wp2_with (at_builtin; refine wpList_append_rows rfl (.tmp 139) (.tmp 143) 40 rfl 51 3 chgZ kept51 (by decide) Tryf.underlying40 cv (tabAt ts2 t').cs.length (chgCell (tabAt ts2 t').cs) rfl ?rr ⟨wr.heap.size, 0, none⟩ 1 rfl (chgF ⟨sub b s2 e2, .slice none 0 0, none, false⟩) ?cc ?co HCL.out ?_)
                          case rr => rw [HCV.out]; exact (HI.out.tabs.of_below ((Below.refl _ _).alloc (Nat.le_refl _) _)).chg t' ht2
                          case cc => exact fun k hk => (new_cell wr _ 51 k).trans (by rcases (by omega : k = 0 ∨ k = 1 ∨ k = 2) with rfl | rfl | rfl <;> rfl)
                          case co => exact fun k hk => by rcases (by omega : k = 0 ∨ k = 1 ∨ k = 2) with rfl | rfl | rfl <;> rfl
                          intro cv' w2 hg
                          rw [HCV.out] at hg
                          obtain ⟨g2, cap2, rfl, _⟩ := hg.rows.at (by omega)
                          have hpl := HI.out.place ht2 rfl _ ((Below.refl _ _).alloc (Nat.le_refl _) _) hg
                          have hp1 := hpl.1
                          have hp2' := hpl.2
                          have HE : Hid (GotModel (.returned (.tuple #[.slice (some ⟨g, 0, none⟩) m cap, .bool true])) w (w2.setCell ⟨g, t' * 3 + 2, none⟩ (.slice (some ⟨g2, 0, none⟩) ((tabAt ts2 t').cs.length + 1) cap2)) b) := HI.out.ended hc0 ht2 rfl _ ((Below.refl _ _).alloc (Nat.le_refl _) _) hg (HV0 _ _ _) HEC.out
                          rw [← HCV.out] at hp1
                          clear HI HL HCL HEC hpl HV0 hg HPZ hcv2
                          go_wp2
                          go_ret2
                          exact HE.out
                        | some f2 =>
                          obtain ⟨s3, e3⟩ := f2
                          have hse3 := fieldAt_le hse2.2.2 hf2
                          have K2 := field_some hN hse2.2.2 HPZ.out hf2
                          have HTC : Hid (TakesC b p2 ⟨sub b s2 e2, some (sub b s3 e3), false⟩ e3) := put_takes hlt2 HY.out hf hf2
                          clear hf hf2
                          go_wp2_with fail
                          refine K.mono ?_
                          rintro e' w' ⟨rfl, ew⟩
                          subst w'
                          clear K
                          go_wp2_with (refine wpList_sub rfl (.tmp 91) (.tmp 92) (.tmp 93) rfl pb b.length s2 e2 rfl rfl rfl hse2.2.1 hse2.2.2 hN ?_; intro A C hA; have hcv2 := conv_str HPZ.out hse2.2.1 hse2.2.2 (C := C) hA; clear hA)
                          go_wp2_with fail
                          refine K2.mono ?_
                          rintro e' w' ⟨rfl, ew⟩
                          subst w'
                          clear K2
                          go_wp2_with (refine wpList_sub rfl (.tmp 127) (.tmp 128) (.tmp 129) rfl pb b.length s3 e3 rfl rfl rfl hse3.2.1 hse3.2.2 hN ?_; intro A3 C3 hA3; have K3 := clone_sub C3 HPZ.out hse3.2.2 hN hA3; clear hA3)
                          refine K3.mono ?_
                          rintro e' w3 ⟨g3, rfl, hg3, hb3, hbel3⟩
                          have HB3 : Hid (Below wr.heap.size wr w3) := hbel3
                          have HV3 : Hid (ValIs w3 w.heap.size ⟨sub b s2 e2, .slice (some ⟨g3, 0, none⟩) (sub b s3 e3).length (sub b s3 e3).length, some (sub b s3 e3), false⟩) := val_bytes _ _ hb3 (Nat.le_trans HI.out.below.size hg3) (by rw [sub_len hse3.2.2]; omega)
                          have hcv3 : w3.cell? ⟨g, t' * 3 + 2, none⟩ = some cv := by rw [hbel3.cell (World.block_lt_of_cell? wr _ hcv)]; exact hcv
                          clear K3 hb3 hbel3 hcv
                          go_wp2_with (at_builtin; refine wpList_append_rows rfl (.tmp 139) (.tmp 143) 40 rfl 51 3 chgZ kept51 (by decide) Tryf.underlying40 cv (tabAt ts2 t').cs.length (chgCell (tabAt ts2 t').cs) rfl ?rr ⟨w3.heap.size, 0, none⟩ 1 rfl (chgF ⟨sub b s2 e2, .slice (some ⟨g3, 0, none⟩) (sub b s3 e3).length (sub b s3 e3).length, some (sub b s3 e3), false⟩) ?cc ?co HCL.out ?_)
                          case rr => rw [HCV.out]; exact (HI.out.tabs.of_below (HB3.out.alloc HB3.out.size _)).chg t' ht2
                          case cc => exact fun k hk => (new_cell w3 _ 51 k).trans (by rcases (by omega : k = 0 ∨ k = 1 ∨ k = 2) with rfl | rfl | rfl <;> rfl)
                          case co => exact fun k hk => by rcases (by omega : k = 0 ∨ k = 1 ∨ k = 2) with rfl | rfl | rfl <;> rfl
                          intro cv' w2 hg
                          rw [HCV.out] at hg
                          obtain ⟨g2, cap2, rfl, _⟩ := hg.rows.at (by omega)
                          have hpl := HI.out.place ht2 rfl _ (HB3.out.alloc HB3.out.size _) hg
                          have hp1 := hpl.1
                          have hp2' := hpl.2
                          have HI' : Hid (MSt w (w2.setCell ⟨g, t' * 3 + 2, none⟩ (.slice (some ⟨g2, 0, none⟩) ((tabAt ts2 t').cs.length + 1) cap2)) b 1 (.slice (some ⟨g, 0, none⟩) m cap) (ts2.set t' { tabAt ts2 t' with cv := .slice (some ⟨g2, 0, none⟩) ((tabAt ts2 t').cs.length + 1) cap2, cs := (tabAt ts2 t').cs ++ [⟨sub b s2 e2, .slice (some ⟨g3, 0, none⟩) (sub b s3 e3).length (sub b s3 e3).length, some (sub b s3 e3), false⟩] }) e3 t' (cnt2 - 1)) := HI.out.took hc0 ht2 rfl _ (HB3.out.alloc HB3.out.size _) hg (HV3.out.of_below ((Below.refl _ _).alloc (Nat.le_refl _) _)) HTC.out (by omega)
                          have HL' : Hid ((ts2.set t' { tabAt ts2 t' with cv := .slice (some ⟨g2, 0, none⟩) ((tabAt ts2 t').cs.length + 1) cap2, cs := (tabAt ts2 t').cs ++ [⟨sub b s2 e2, .slice (some ⟨g3, 0, none⟩) (sub b s3 e3).length (sub b s3 e3).length, some (sub b s3 e3), false⟩] }).length = m) := by show _ = _; rw [List.length_set]; exact HL.out
                          rw [← HCV.out] at hp1
                          clear HI HL HCL HTC hpl HV0 hg HPZ hcv2 HV3 HB3
                          go_wp2
                          go_roundw
                          case rel => exact ⟨e3, cnt2 - 1, _, by go_num, by go_num, by omega, by omega, by omega, HL', HI'⟩
                          case measure => simp [intOf]; omega
                      · have HE : Hid (GotModel (.returned (.tuple #[.slice (some ⟨g, 0, none⟩) m cap, .bool true])) w wr b) := HI.out.unknown hc0 hlt2 (by rw [HY.out]; exact hy1) (by rw [HY.out]; exact hy2) (by rw [HY.out]; exact hy3)
                        clear HI hf HCV HCL HL HY
                        go_wp2_with fail
                        refine K.mono ?_
                        rintro e' w' ⟨rfl, ew⟩
                        subst w'
                        clear K
                        go_wp2_with (refine wpList_sub rfl (.tmp 91) (.tmp 92) (.tmp 93) rfl pb b.length s2 e2 rfl rfl rfl hse2.2.1 hse2.2.2 hN ?_; intro A C hA; have hcv2 := conv_str HPZ.out hse2.2.1 hse2.2.2 (C := C) hA; clear hA)
                        clear HPZ
                        go_wp2
                        go_ret2
                        exact HE.out
              · have HE : Hid (GotModel (.returned (.tuple #[.slice (some ⟨g, 0, none⟩) m cap, .bool true])) w wr b) := HI.out.short hc0 (by omega)
                clear HI
                go_wp2
                go_ret2
                exact HE.out
    · go_wp2
      go_ret2
      exact HM.out.stop hlt
end Go.Proofs.Qxb6616086aFmt

import Derived.Test.Qxb6616086aFmtDv
/-! THE WALK of decodeWrites. -/
namespace Go.Proofs.Qxb6616086aFmt
open Go.RowKit Go.Maps Go.Stop Go.Extern.Stop Go.Extern

set_option maxHeartbeats 8000000 in
set_option maxRecDepth 100000 in
theorem decode_any (F : Interp) (pb : Nat) (b : List UInt8) (w : World) (hF : F.answers w.tape) (hN : b.length ≤ 65536) (hpay : BytesAt w pb b) :
    Calls Tryf.prog 16 #[.slice (some ⟨pb, 0, none⟩) b.length b.length] w fun e w' => GotWrites e w w' b := by
  obtain ⟨W0, eW⟩ : ∃ W0, W0 = w.alloc (.cells #[.slice none 0 0, .map none] 31) := ⟨_, rfl⟩
  have hs0 : W0.heap.size = w.heap.size + 1 := by rw [eW]; simp
  have hb0 : Below w.heap.size w W0 := by rw [eW]; exact (Below.refl _ w).alloc (Nat.le_refl _) _
  have HT0 : Hid (W0.rowIs w.heap.size 31 2 (wsF (.slice none 0 0) (.map none))) := by
    show W0.rowIs _ _ _ _
    rw [eW]
    exact World.rowIs_alloc w #[.slice none 0 0, .map none] 31 _ (fun i hi => by
      have hi' : i < 2 := hi
      rcases (by omega : i = 0 ∨ i = 1) with rfl | rfl <;> rfl)
  have hp0 : BytesAt W0 pb b := by rw [eW]; exact World.rowIs.alloc hpay _
  have HS : Hid (DSt W0 ((W0.alloc (.cells #[.slice none 0 0, .map none] 31)).alloc (.cells #[.slice (some ⟨pb, 0, none⟩) b.length b.length, .nilIface] 63)) (w.heap.size + 1 + 1) (w.heap.size + 1) pb b 0 (.slice none 0 0) (.map none) [] 0 0 0) := by
    have := DSt.start W0 pb b hN hp0
    rw [hs0] at this
    exact this
  have HF : Hid (F.answers W0.tape) := by show F.answers _; rw [hb0.tape]; exact hF
  have HB0 : Hid (Below w.heap.size w W0 ∧ W0.heap.size = w.heap.size + 1) := ⟨hb0, hs0⟩
  clear hp0 hpay hF hb0 hs0
  go_enter Tryf.func16, Tryf.ntmps16
  go_wp2
  rw [← eW]
  clear eW
  generalize w.heap.size + 1 + 1 = rb at HS ⊢
  generalize w.heap.size + 1 = wb at HS ⊢
  have HTB : Hid (w.heap.size < W0.heap.size) := by show _ < _; rw [HB0.out.2]; omega
  obtain ⟨tb, etb⟩ : ∃ tb, tb = w.heap.size := ⟨_, rfl⟩
  rw [← etb] at HT0 HTB ⊢
  have HTW : Hid (tb = w.heap.size) := etb
  clear etb
  have cvn := conv_nil
  go_loopw [7] (fun _ wr => (∃ (p t cnt : Nat) (tv xv : Value) (ts : List MTab), Hid (DSt W0 wr rb wb pb b 0 tv xv ts p t cnt)) ∨ (∃ (tv xv : Value) (ts : List MTab), Hid (DBad W0 wr rb wb pb b tv xv ts))) (fun _ wr => rdLeft rb wr)
  case atStart => exact .inl ⟨0, 0, 0, _, _, _, HS⟩
  case round =>
    clear HS
    rcases hrel with ⟨p, t, cnt, tv, xv, ts, HD⟩ | ⟨tv, xv, ts, HD⟩
    · by_cases hlt : p < b.length
      · obtain ⟨A, hA, c0, c1, f0, f1⟩ := HD.out.rd.cells
        obtain ⟨L, eL⟩ : ∃ L, L = b.length - p := ⟨_, rfl⟩
        rw [← eL] at c0
        have hL : L ≤ 65536 := by omega
        have hL0 : 0 < L := by omega
        have hlen : ts.length < b.length := by have := HD.out.len; omega
        have HM : Hid (∀ x, (∃ q, p < q ∧ Rd x rb pb b q .nilIface) ∨ RdBad x rb pb b → rdLeft rb x < rdLeft rb wr) := fun x hx => by
          rw [HD.out.rd.left]
          rcases hx with ⟨q, hq, hx⟩ | hx
          · rw [hx.left]; have := hx.le; omega
          · rw [hx.left]; omega
        clear hA eL
        cases hf : fieldAt b p with
        | none =>
          have K := dwField_none HF.out HD.out.fr HD.out.rd hf
          clear f0 f1
          go_wp2_with fail
          refine K.mono ?_
          rintro e' w1 ⟨rfl, hfr1, hbd1⟩
          have K2 := dwTable (name := []) hfr1 (by simp) hlen
          have HB1 : Hid (RdBad w1 rb pb b) := hbd1
          clear K hfr1 hbd1 c0 c1
          go_wp2_with fail
          refine K2.mono ?_
          rintro e' w2 ⟨g, n, cap, xv', ts', rfl, hfr2, hn2, hpl2, hlt2, hk2⟩
          have K3 := dwUv_bad hfr2 (HB1.out.keep hk2)
          clear K2 hn2 hlt2 hk2 HB1 hfr2
          go_wp2_with fail
          refine K3.mono ?_
          rintro e' w3 ⟨rfl, hfr3, hbd3⟩
          have HE : Hid (DBad W0 w3 rb wb pb b (.slice (some ⟨g, 0, none⟩) n cap) xv' ts') := HD.out.noName hlt hf hfr3 hbd3 hpl2
          clear K3 hfr3 hbd3 hpl2 HD hf
          go_wp2
          refine wp_loop_rounds 1 ?_
          rw [rounds_succ]
          go_wp2
          go_roundw
          case rel => exact .inr ⟨_, _, _, HE⟩
          case measure => exact HM.out _ (.inr (HE.out.rd))
        | some f =>
          obtain ⟨s, e⟩ := f
          have hse := fieldAt_le (Nat.le_of_lt hlt) hf
          have K := dwField_some HD.out.fr HD.out.rd hf
          clear f0 f1
          go_wp2_with fail
          refine K.mono ?_
          rintro e' w1 ⟨A1, C1, rfl, hcv1, _, hfr1, hrd1⟩
          have K2 := dwTable (name := sub b s e) hfr1 (by rw [sub_len hse.2.2]; omega) hlen
          have HR1 : Hid (Rd w1 rb pb b e .nilIface) := hrd1
          clear K hfr1 hrd1 c0 c1
          go_wp2_with fail
          refine K2.mono ?_
          rintro e' w2 ⟨g, n, cap, xv', ts', rfl, hfr2, hn2, hpl2, hlt2, hk2⟩
          obtain ⟨t', et⟩ : ∃ t', t' = atT (plain ts) (sub b s e) := ⟨_, rfl⟩
          rw [← et] at hlt2 ⊢
          have HET : Hid (t' = atT (plain ts) (sub b s e)) := et
          clear et
          have hrd2 := HR1.out.keep hk2
          clear hcv1 HR1 K2
          cases hu : uvAt b e with
          | none =>
            have K3 := dwUv_none hfr2 hrd2 hu
            clear hfr2 hrd2
            go_wp2_with fail
            refine K3.mono ?_
            rintro e' w3 ⟨rfl, hfr3, hbd3⟩
            have HE : Hid (DBad W0 w3 rb wb pb b (.slice (some ⟨g, 0, none⟩) n cap) xv' ts') := HD.out.noCount hlt hf hu hfr3 hbd3 hpl2
            clear K3 hfr3 hbd3 hpl2 HD hf hu hn2 hlt2 hk2 HET
            go_wp2
            refine wp_loop_rounds 1 ?_
            rw [rounds_succ]
            go_wp2
            go_roundw
            case rel => exact .inr ⟨_, _, _, HE⟩
            case measure => exact HM.out _ (.inr (HE.out.rd))
          | some u =>
            obtain ⟨cn, q⟩ := u
            have hq := uvAt_le hse.2.2 hu
            have hcn := uvAt_lt hu
            have K3 := dwUv_some hfr2 hrd2 hu
            clear hfr2 hrd2
            go_wp2_with fail
            refine K3.mono ?_
            rintro e' w3 ⟨rfl, hfr3, hrd3⟩
            have HE : Hid (DSt W0 w3 rb wb pb b 1 (.slice (some ⟨g, 0, none⟩) n cap) xv' ts' q t' cn) := by rw [HET.out]; exact HD.out.enter hlt hf hu hfr3 hrd3 hpl2
            have HLn : Hid (ts'.length = n) := hn2.symm
            have htn : t' < n := by omega
            have hpq : p < q := by omega
            clear K3 hfr3 hrd3 hpl2 HD hf hu hn2 hlt2 hk2 HET
            obtain ⟨wo, ewo⟩ : ∃ wo, wo = wr := ⟨wr, rfl⟩
            subst ewo
            go_wp2
            go_loopw [7] (fun c wi => ∃ cnt : Nat, c = .int .u64 cnt ∧ cnt < 18446744073709551616 ∧ ((∃ (p : Nat) (ts : List MTab), q ≤ p ∧ Hid (ts.length = n) ∧ Hid (DSt W0 wi rb wb pb b 1 (.slice (some ⟨g, 0, none⟩) n cap) xv' ts p t' cnt)) ∨ (∃ ts : List MTab, Hid (DBad W0 wi rb wb pb b (.slice (some ⟨g, 0, none⟩) n cap) xv' ts)))) (fun _ wi => rdLeft rb wi)
            case atStart => exact ⟨cn, rfl, hcn, .inl ⟨q, ts', Nat.le_refl _, HLn, HE⟩⟩
            case round =>
              clear HE HLn
              obtain ⟨cnt2, rfl, hcn2, hrel⟩ := hrel
              rcases hrel with ⟨p2, ts2, hqp, HL, HI⟩ | ⟨ts2, HI⟩
              · by_cases hc0 : cnt2 = 0
                · subst hc0
                  have HI' : Hid (DSt W0 wr rb wb pb b 0 (.slice (some ⟨g, 0, none⟩) n cap) xv' ts2 p2 t' 0) := HI.out.leave
                  clear HI
                  go_wp2
                  go_roundw
                  case rel => exact .inl ⟨p2, t', 0, _, _, _, HI'⟩
                  case measure => exact HM.out _ (.inl ⟨p2, by omega, HI'.out.rd⟩)
                · have hc1 : 0 < cnt2 := by omega
                  obtain ⟨A2, _, _, c1, _⟩ := HI.out.rd.cells
                  have ht2 : t' < ts2.length := by rw [HL.out]; exact htn
                  by_cases hlt2 : p2 < b.length
                  · have K := dwKind_some HI.out.fr HI.out.rd hlt2
                    obtain ⟨y, ey⟩ : ∃ y, y = (b.getD p2 0).toNat := ⟨_, rfl⟩
                    have HY : Hid ((b.getD p2 0).toNat = y) := ey.symm
                    have hy : y < 256 := by rw [ey]; exact (b.getD p2 0).toNat_lt
                    rw [← ey] at K
                    clear ey
                    go_wp2_with fail
                    refine K.mono ?_
                    rintro e' w1 ⟨rfl, hfr1, hrd1⟩
                    clear K c1
                    by_cases hy3 : y = 3
                    · subst hy3
                      have hc := hfr1.ws.tabs.cell rfl ht2 (k := 1) (by decide)
                      have hcd : w1.cell? ⟨g, t' * 4 + 1, none⟩ = some (.bool (tabAt ts2 t').drop) := hc.1
                      have hfd := hc.2
                      have HI' : Hid (DSt W0 (w1.setCell ⟨g, t' * 4 + 1, none⟩ (.bool true)) rb wb pb b 1 (.slice (some ⟨g, 0, none⟩) n cap) xv' (ts2.set t' { tabAt ts2 t' with drop := true }) (p2 + 1) t' (cnt2 - 1)) := HI.out.dropped hc0 hlt2 HY.out ht2 hfr1 hrd1
                      have HL' : Hid ((ts2.set t' { tabAt ts2 t' with drop := true }).length = n) := by show _ = _; rw [List.length_set]; exact HL.out
                      have hm' : rdLeft rb (w1.setCell ⟨g, t' * 4 + 1, none⟩ (.bool true)) < rdLeft rb wr := by rw [HI'.out.rd.left, HI.out.rd.left]; omega
                      clear HI HL hc hfr1 hrd1 ht2
                      generalize (tabAt ts2 t').drop = d at hcd
                      go_wp2
                      go_roundw
                      case rel => exact ⟨cnt2 - 1, by go_num, by omega, .inl ⟨p2 + 1, _, by omega, HL', HI'⟩⟩
                      case measure => exact hm'
                    · obtain ⟨cv, ecv⟩ : ∃ cv, cv = (tabAt ts2 t').cv := ⟨_, rfl⟩
                      have HCV : Hid (cv = (tabAt ts2 t').cv) := ecv
                      clear ecv
                      have HCL : Hid ((tabAt ts2 t').cs.length ≤ 1000000) := by have := HI.out.clen t'; show _ ≤ _; omega
                      have HV0 : ∀ (k : List UInt8) (d : Bool) (v : World), ValIs v W0.heap.size ⟨k, .slice none 0 0, none, d⟩ := fun _ _ _ => rfl
                      cases hf2 : fieldAt b (p2 + 1) with
                      | none =>
                        have K := dwField_none HF.out hfr1 hrd1 hf2
                        clear hrd1 hfr1
                        go_wp2_with fail
                        refine K.mono ?_
                        rintro e' w2 ⟨rfl, hfr2, hbd2⟩
                        clear K
                        by_cases hy2 : y = 2
                        · subst hy2
                          have HEC : Hid (EndsC b p2 ⟨[], none, true⟩) := del_ends hlt2 HY.out hf2
                          obtain ⟨c2, f2⟩ := hfr2.chgCell ht2 HCV.out
                          go_wp2_with (at_builtin; refine wpList_append_rows rfl (.tmp 70) (.tmp 74) 52 rfl 58 3 chgZ kept58 (by decide) Tryf.underlying52 cv (tabAt ts2 t').cs.length (chgCell (tabAt ts2 t').cs) rfl ?rr ⟨w2.heap.size, 0, none⟩ 1 rfl (chgF ⟨[], .slice none 0 0, none, true⟩) ?cc ?co HCL.out ?_)
                          case rr => exact hfr2.chgRows ht2 HCV.out _
                          case cc => exact new_chg w2 ⟨[], .slice none 0 0, none, true⟩ 58
                          case co => exact chg_one rfl
                          intro cv' w3 hg
                          rw [HCV.out] at hg
                          obtain ⟨g2, cap2, rfl, _⟩ := hg.rows.at (by omega)
                          have hpt := hfr2.put (w2 := w3) ht2 ((Below.refl _ _).alloc (Nat.le_refl _) _) hg (HV0 _ _ _) (by have := HI.out.clen t'; omega)
                          have hp1 := hpt.1.1
                          have hp2' := hpt.1.2
                          rw [← HCV.out] at hp1
                          have HI' : Hid (DBad W0 (w3.setCell ⟨g, t' * 4 + 2, none⟩ (.slice (some ⟨g2, 0, none⟩) ((tabAt ts2 t').cs.length + 1) cap2)) rb wb pb b (.slice (some ⟨g, 0, none⟩) n cap) xv' (ts2.set t' { tabAt ts2 t' with cv := .slice (some ⟨g2, 0, none⟩) ((tabAt ts2 t').cs.length + 1) cap2, cs := (tabAt ts2 t').cs ++ [⟨[], .slice none 0 0, none, true⟩] })) := HI.out.ended hc0 hlt2 ht2 hfr2 hbd2 ((Below.refl _ _).alloc (Nat.le_refl _) _) hg (HV0 _ _ _) HEC.out
                          have hm' : rdLeft rb (w3.setCell ⟨g, t' * 4 + 2, none⟩ (.slice (some ⟨g2, 0, none⟩) ((tabAt ts2 t').cs.length + 1) cap2)) < rdLeft rb wr := by rw [HI'.out.rd.left, HI.out.rd.left]; omega
                          clear HI HL HCL HEC hpt HV0 hg hfr2 hbd2
                          go_wp2
                          go_roundw
                          case rel => exact ⟨cnt2 - 1, by go_num, by omega, .inr ⟨_, HI'⟩⟩
                          case measure => exact hm'
                        · by_cases hy1 : y = 1
                          · subst hy1
                            have HEC : Hid (EndsC b p2 ⟨[], none, false⟩) := put_ends2 hlt2 HY.out hf2
                            obtain ⟨c2, f2⟩ := hfr2.chgCell ht2 HCV.out
                            have K20 := dwField_bad hfr2.drew (hbd2.later (Below.refl _ _).drew)
                            go_wp2_with fail
                            go_region_law
                              (first
                                | (refine step_call20 (by rfl) (.tmp 5) 63 (by rfl) (.pointer (some ⟨rb, 0, none⟩)) (by rfl) ?_; refine K20.mono ?_; rintro e' w4 ⟨rfl, hfr4, hbd4⟩; have s4 := (hfr4.chgCell ht2 HCV.out).1; have s2a : ∀ o, (w4.alloc o).cell? ⟨g, t' * 4 + 2, none⟩ = some cv := fun o => laterCell ((Below.refl _ _).alloc (Nat.le_refl _) o) s4; refine ⟨_, rfl, ?_⟩)
                                | (refine step_call23 (by rfl) (.tmp 56) 22 (by rfl) (.slice none 0 0) (by rfl) ?_; refine (Tryf.bytes_Clone_nil 0 0 w4).mono ?_; rintro e' w5 ⟨rfl, ew5⟩; subst w5; refine ⟨_, rfl, ?_⟩)
                                | (refine step_append_rows (by rfl) (.tmp 54) (.tmp 60) 52 (by rfl) 58 3 chgZ kept58 (by decide) Tryf.underlying52 cv (tabAt ts2 t').cs.length (chgCell (tabAt ts2 t').cs) (by rfl) (hfr4.chgRows ht2 HCV.out _) ⟨w4.heap.size, 0, none⟩ 1 (by rfl) (chgF ⟨[], .slice none 0 0, none, false⟩) (new_chg w4 ⟨[], .slice none 0 0, none, false⟩ 58) (chg_one rfl) HCL.out ?_; intro cv' w3 hg; rw [HCV.out] at hg; obtain ⟨g2, cap2, rfl, _⟩ := hg.rows.at (by omega); have hpt := hfr4.put (w2 := w3) ht2 ((Below.refl _ _).alloc (Nat.le_refl _) _) hg (HV0 _ _ _) (by have := HI.out.clen t'; omega); have hp1 := hpt.1.1; have hp2' := hpt.1.2; rw [← HCV.out] at hp1)
                                | fail)
                            all_goals (
                              have HI' : Hid (DBad W0 (w3.setCell ⟨g, t' * 4 + 2, none⟩ (.slice (some ⟨g2, 0, none⟩) ((tabAt ts2 t').cs.length + 1) cap2)) rb wb pb b (.slice (some ⟨g, 0, none⟩) n cap) xv' (ts2.set t' { tabAt ts2 t' with cv := .slice (some ⟨g2, 0, none⟩) ((tabAt ts2 t').cs.length + 1) cap2, cs := (tabAt ts2 t').cs ++ [⟨[], .slice none 0 0, none, false⟩] })) := HI.out.ended hc0 hlt2 ht2 hfr4 hbd4 ((Below.refl _ _).alloc (Nat.le_refl _) _) hg (HV0 _ _ _) HEC.out
                              have hm' : rdLeft rb (w3.setCell ⟨g, t' * 4 + 2, none⟩ (.slice (some ⟨g2, 0, none⟩) ((tabAt ts2 t').cs.length + 1) cap2)) < rdLeft rb wr := by rw [HI'.out.rd.left, HI.out.rd.left]; omega
                              clear HI HL HCL HEC hpt HV0 hg hfr2 hbd2 hfr4 hbd4 K20 s4 s2a c2 f2
                              go_wp2
                              go_roundw
                              case rel => exact ⟨cnt2 - 1, by go_num, by omega, .inr ⟨_, HI'⟩⟩
                              case measure => exact hm')
                          · skip
                            have HFE : Hid (Fr W0 w2 rb wb pb b (.slice (some ⟨g, 0, none⟩) n cap) xv' ts2) := hfr2
                            have KE : ∀ T, Calls Tryf.prog 25 #[.string Tryf.fmtKind, .slice (some ⟨w2.heap.size, 0, none⟩) 1 1] (w2.alloc (.cells #[.iface 5 (.int .u8 (y : Int))] T)) fun e w5 => ∃ t v, e = .returned (.iface t v) ∧ Below w2.heap.size w2 w5 := fun T => dwErr HF.out hfr2 (y : Int) T
                            go_wp2_with fail
                            refine (KE _).mono ?_
                            rintro e' w5 ⟨t5, v5, rfl, hb5⟩
                            have KF := (dwFail_bad (HFE.out.later hb5) (hbd2.later hb5) (.iface t5 v5))
                            clear KE hb5
                            go_wp2_with fail
                            refine KF.mono ?_
                            rintro e' w6 ⟨rfl, hfr6, hbd6⟩
                            have HI' : Hid (DBad W0 w6 rb wb pb b (.slice (some ⟨g, 0, none⟩) n cap) xv' ts2) := HI.out.unknown hc0 hlt2 (by rw [HY.out]; exact hy1) (by rw [HY.out]; exact hy2) (by rw [HY.out]; exact hy3) hfr6 hbd6
                            have hm' : rdLeft rb w6 < rdLeft rb wr := by rw [HI'.out.rd.left, HI.out.rd.left]; omega
                            clear KF hfr6 hbd6 HFE
                            go_wp2
                            go_roundw
                            case rel => exact ⟨cnt2 - 1, by go_num, by omega, .inr ⟨_, HI'⟩⟩
                            case measure => exact hm'
                      | some f2 =>
                        obtain ⟨s2, e2⟩ := f2
                        have hse2 := fieldAt_le (p := p2 + 1) (by omega) hf2
                        have K := dwField_some hfr1 hrd1 hf2
                        clear hrd1 hfr1
                        go_wp2_with fail
                        refine K.mono ?_
                        rintro e' w2 ⟨A2', C2, rfl, hcv2, _, hfr2, hrd2⟩
                        clear K
                        by_cases hy2 : y = 2
                        · subst hy2
                          have HTC : Hid (TakesC b p2 ⟨sub b s2 e2, none, true⟩ e2) := del_takes hlt2 HY.out hf2
                          obtain ⟨c2, f2⟩ := hfr2.chgCell ht2 HCV.out
                          go_wp2_with (at_builtin; refine wpList_append_rows rfl (.tmp 70) (.tmp 74) 52 rfl 58 3 chgZ kept58 (by decide) Tryf.underlying52 cv (tabAt ts2 t').cs.length (chgCell (tabAt ts2 t').cs) rfl ?rr ⟨w2.heap.size, 0, none⟩ 1 rfl (chgF ⟨sub b s2 e2, .slice none 0 0, none, true⟩) ?cc ?co HCL.out ?_)
                          case rr => exact hfr2.chgRows ht2 HCV.out _
                          case cc => exact new_chg w2 ⟨sub b s2 e2, .slice none 0 0, none, true⟩ 58
                          case co => exact chg_one rfl
                          intro cv' w3 hg
                          rw [HCV.out] at hg
                          obtain ⟨g2, cap2, rfl, _⟩ := hg.rows.at (by omega)
                          have hpt := hfr2.put (w2 := w3) ht2 ((Below.refl _ _).alloc (Nat.le_refl _) _) hg (HV0 _ _ _) (by have := HI.out.clen t'; omega)
                          have hp1 := hpt.1.1
                          have hp2' := hpt.1.2
                          rw [← HCV.out] at hp1
                          have HI' : Hid (DSt W0 (w3.setCell ⟨g, t' * 4 + 2, none⟩ (.slice (some ⟨g2, 0, none⟩) ((tabAt ts2 t').cs.length + 1) cap2)) rb wb pb b 1 (.slice (some ⟨g, 0, none⟩) n cap) xv' (ts2.set t' { tabAt ts2 t' with cv := .slice (some ⟨g2, 0, none⟩) ((tabAt ts2 t').cs.length + 1) cap2, cs := (tabAt ts2 t').cs ++ [⟨sub b s2 e2, .slice none 0 0, none, true⟩] }) e2 t' (cnt2 - 1)) := HI.out.took hc0 ht2 hfr2 hrd2 ((Below.refl _ _).alloc (Nat.le_refl _) _) hg (HV0 _ _ _) HTC.out (by omega)
                          have HL' : Hid ((ts2.set t' { tabAt ts2 t' with cv := .slice (some ⟨g2, 0, none⟩) ((tabAt ts2 t').cs.length + 1) cap2, cs := (tabAt ts2 t').cs ++ [⟨sub b s2 e2, .slice none 0 0, none, true⟩] }).length = n) := by show _ = _; rw [List.length_set]; exact HL.out
                          have hm' : rdLeft rb (w3.setCell ⟨g, t' * 4 + 2, none⟩ (.slice (some ⟨g2, 0, none⟩) ((tabAt ts2 t').cs.length + 1) cap2)) < rdLeft rb wr := by rw [HI'.out.rd.left, HI.out.rd.left]; omega
                          clear HI HL HCL HTC hpt HV0 hg hfr2 hrd2 hcv2
                          go_wp2
                          go_roundw
                          case rel => exact ⟨cnt2 - 1, by go_num, by omega, .inl ⟨e2, _, by omega, HL', HI'⟩⟩
                          case measure => exact hm'
                        · by_cases hy1 : y = 1
                          · subst hy1
                            cases hf3 : fieldAt b e2 with
                            | none =>
                              have HEC : Hid (EndsC b p2 ⟨sub b s2 e2, none, false⟩) := put_ends hlt2 HY.out hf2 hf3
                              obtain ⟨c2, f2⟩ := hfr2.chgCell ht2 HCV.out
                              have K20 := dwField_none HF.out hfr2.drew (hrd2.of_below (Below.refl _ _).drew) hf3
                              go_wp2_with fail
                              go_region_law
                                (first
                                  | (refine step_call20 (by rfl) (.tmp 5) 63 (by rfl) (.pointer (some ⟨rb, 0, none⟩)) (by rfl) ?_; refine K20.mono ?_; rintro e' w4 ⟨rfl, hfr4, hbd4⟩; have s4 := (hfr4.chgCell ht2 HCV.out).1; have s2a : ∀ o, (w4.alloc o).cell? ⟨g, t' * 4 + 2, none⟩ = some cv := fun o => laterCell ((Below.refl _ _).alloc (Nat.le_refl _) o) s4; refine ⟨_, rfl, ?_⟩)
                                  | (refine step_call23 (by rfl) (.tmp 56) 22 (by rfl) (.slice none 0 0) (by rfl) ?_; refine (Tryf.bytes_Clone_nil 0 0 w4).mono ?_; rintro e' w5 ⟨rfl, ew5⟩; subst w5; refine ⟨_, rfl, ?_⟩)
                                  | (refine step_append_rows (by rfl) (.tmp 54) (.tmp 60) 52 (by rfl) 58 3 chgZ kept58 (by decide) Tryf.underlying52 cv (tabAt ts2 t').cs.length (chgCell (tabAt ts2 t').cs) (by rfl) (hfr4.chgRows ht2 HCV.out _) ⟨w4.heap.size, 0, none⟩ 1 (by rfl) (chgF ⟨sub b s2 e2, .slice none 0 0, none, false⟩) (new_chg w4 ⟨sub b s2 e2, .slice none 0 0, none, false⟩ 58) (chg_one rfl) HCL.out ?_; intro cv' w3 hg; rw [HCV.out] at hg; obtain ⟨g2, cap2, rfl, _⟩ := hg.rows.at (by omega); have hpt := hfr4.put (w2 := w3) ht2 ((Below.refl _ _).alloc (Nat.le_refl _) _) hg (HV0 _ _ _) (by have := HI.out.clen t'; omega); have hp1 := hpt.1.1; have hp2' := hpt.1.2; rw [← HCV.out] at hp1)
                                  | fail)
                              all_goals (
                                have HI' : Hid (DBad W0 (w3.setCell ⟨g, t' * 4 + 2, none⟩ (.slice (some ⟨g2, 0, none⟩) ((tabAt ts2 t').cs.length + 1) cap2)) rb wb pb b (.slice (some ⟨g, 0, none⟩) n cap) xv' (ts2.set t' { tabAt ts2 t' with cv := .slice (some ⟨g2, 0, none⟩) ((tabAt ts2 t').cs.length + 1) cap2, cs := (tabAt ts2 t').cs ++ [⟨sub b s2 e2, .slice none 0 0, none, false⟩] })) := HI.out.ended hc0 hlt2 ht2 hfr4 hbd4 ((Below.refl _ _).alloc (Nat.le_refl _) _) hg (HV0 _ _ _) HEC.out
                                have hm' : rdLeft rb (w3.setCell ⟨g, t' * 4 + 2, none⟩ (.slice (some ⟨g2, 0, none⟩) ((tabAt ts2 t').cs.length + 1) cap2)) < rdLeft rb wr := by rw [HI'.out.rd.left, HI.out.rd.left]; omega
                                clear HI HL HCL HEC hpt HV0 hg hfr2 hrd2 hfr4 hbd4 K20 s4 s2a c2 f2 hcv2
                                go_wp2
                                go_roundw
                                case rel => exact ⟨cnt2 - 1, by go_num, by omega, .inr ⟨_, HI'⟩⟩
                                case measure => exact hm')
                            | some f3 =>
                              obtain ⟨s3, e3⟩ := f3
                              have hse3 := fieldAt_le hse2.2.2 hf3
                              have HTC : Hid (TakesC b p2 ⟨sub b s2 e2, some (sub b s3 e3), false⟩ e3) := put_takes hlt2 HY.out hf2 hf3
                              obtain ⟨c2, f2⟩ := hfr2.chgCell ht2 HCV.out
                              have K20 := dwField_some hfr2.drew (hrd2.of_below (Below.refl _ _).drew) hf3
                              go_wp2_with fail
                              go_region_law
                                (first
                                  | (refine step_call20 (by rfl) (.tmp 5) 63 (by rfl) (.pointer (some ⟨rb, 0, none⟩)) (by rfl) ?_; refine K20.mono ?_; rintro e' w4 ⟨A4, C4, rfl, _, hce4, hfr4, hrd4⟩; have s4 := (hfr4.chgCell ht2 HCV.out).1; have K23 := dwClone (k := sub b s2 e2) (C := C4) hfr4 hrd4 (by rw [sub_len hse3.2.2]; omega) hce4 (sub_len hse3.2.2).symm; refine ⟨_, rfl, ?_⟩)
                                  | (refine step_call23 (by rfl) (.tmp 56) 22 (by rfl) (.slice (some A4) (e3 - s3) C4) (by rfl) ?_; refine K23.mono ?_; rintro e' w5 ⟨g5, cap5, rfl, hfr5, hrd5, hv5⟩; have s5 := (hfr5.chgCell ht2 HCV.out).1; have s2a : ∀ o, (w5.alloc o).cell? ⟨g, t' * 4 + 2, none⟩ = some cv := fun o => laterCell ((Below.refl _ _).alloc (Nat.le_refl _) o) s5; refine ⟨_, rfl, ?_⟩)
                                  | (refine step_append_rows (by rfl) (.tmp 54) (.tmp 60) 52 (by rfl) 58 3 chgZ kept58 (by decide) Tryf.underlying52 cv (tabAt ts2 t').cs.length (chgCell (tabAt ts2 t').cs) (by rfl) (hfr5.chgRows ht2 HCV.out _) ⟨w5.heap.size, 0, none⟩ 1 (by rfl) (chgF ⟨sub b s2 e2, .slice (some ⟨g5, 0, none⟩) (e3 - s3) cap5, some (sub b s3 e3), false⟩) (new_chg w5 ⟨sub b s2 e2, .slice (some ⟨g5, 0, none⟩) (e3 - s3) cap5, some (sub b s3 e3), false⟩ 58) (chg_one rfl) HCL.out ?_; intro cv' w3 hg; rw [HCV.out] at hg; obtain ⟨g2, cap2, rfl, _⟩ := hg.rows.at (by omega); have hpt := hfr5.put (w2 := w3) ht2 ((Below.refl _ _).alloc (Nat.le_refl _) _) hg (hv5) (by have := HI.out.clen t'; omega); have hp1 := hpt.1.1; have hp2' := hpt.1.2; rw [← HCV.out] at hp1)
                                  | fail)
                              all_goals (
                                have HI' : Hid (DSt W0 (w3.setCell ⟨g, t' * 4 + 2, none⟩ (.slice (some ⟨g2, 0, none⟩) ((tabAt ts2 t').cs.length + 1) cap2)) rb wb pb b 1 (.slice (some ⟨g, 0, none⟩) n cap) xv' (ts2.set t' { tabAt ts2 t' with cv := .slice (some ⟨g2, 0, none⟩) ((tabAt ts2 t').cs.length + 1) cap2, cs := (tabAt ts2 t').cs ++ [⟨sub b s2 e2, .slice (some ⟨g5, 0, none⟩) (e3 - s3) cap5, some (sub b s3 e3), false⟩] }) e3 t' (cnt2 - 1)) := HI.out.took hc0 ht2 hfr5 hrd5 ((Below.refl _ _).alloc (Nat.le_refl _) _) hg (hv5) HTC.out (by omega)
                                have HL' : Hid ((ts2.set t' { tabAt ts2 t' with cv := .slice (some ⟨g2, 0, none⟩) ((tabAt ts2 t').cs.length + 1) cap2, cs := (tabAt ts2 t').cs ++ [⟨sub b s2 e2, .slice (some ⟨g5, 0, none⟩) (e3 - s3) cap5, some (sub b s3 e3), false⟩] }).length = n) := by show _ = _; rw [List.length_set]; exact HL.out
                                have hm' : rdLeft rb (w3.setCell ⟨g, t' * 4 + 2, none⟩ (.slice (some ⟨g2, 0, none⟩) ((tabAt ts2 t').cs.length + 1) cap2)) < rdLeft rb wr := by rw [HI'.out.rd.left, HI.out.rd.left]; omega
                                clear HI HL HCL HTC hpt HV0 hg hfr2 hrd2 hfr4 hrd4 hfr5 hrd5 K20 K23 s4 s5 s2a c2 f2 hcv2 hv5 hce4
                                go_wp2
                                go_roundw
                                case rel => exact ⟨cnt2 - 1, by go_num, by omega, .inl ⟨e3, _, by omega, HL', HI'⟩⟩
                                case measure => exact hm')
                          · skip
                            have HFE : Hid (Fr W0 w2 rb wb pb b (.slice (some ⟨g, 0, none⟩) n cap) xv' ts2) := hfr2
                            have KE : ∀ T, Calls Tryf.prog 25 #[.string Tryf.fmtKind, .slice (some ⟨w2.heap.size, 0, none⟩) 1 1] (w2.alloc (.cells #[.iface 5 (.int .u8 (y : Int))] T)) fun e w5 => ∃ t v, e = .returned (.iface t v) ∧ Below w2.heap.size w2 w5 := fun T => dwErr HF.out hfr2 (y : Int) T
                            go_wp2_with fail
                            refine (KE _).mono ?_
                            rintro e' w5 ⟨t5, v5, rfl, hb5⟩
                            have KF := (dwFail_ok (HFE.out.later hb5) (hrd2.of_below hb5) t5 v5)
                            clear KE hb5
                            go_wp2_with fail
                            refine KF.mono ?_
                            rintro e' w6 ⟨rfl, hfr6, hbd6⟩
                            have HI' : Hid (DBad W0 w6 rb wb pb b (.slice (some ⟨g, 0, none⟩) n cap) xv' ts2) := HI.out.unknown hc0 hlt2 (by rw [HY.out]; exact hy1) (by rw [HY.out]; exact hy2) (by rw [HY.out]; exact hy3) hfr6 hbd6
                            have hm' : rdLeft rb w6 < rdLeft rb wr := by rw [HI'.out.rd.left, HI.out.rd.left]; omega
                            clear KF hfr6 hbd6 HFE
                            go_wp2
                            go_roundw
                            case rel => exact ⟨cnt2 - 1, by go_num, by omega, .inr ⟨_, HI'⟩⟩
                            case measure => exact hm'
                  · have K := dwKind_none HI.out.fr HI.out.rd hlt2
                    go_wp2_with fail
                    refine K.mono ?_
                    rintro e' w1 ⟨rfl, hfr1, hbd1⟩
                    have K2 := dwField_bad hfr1 hbd1
                    clear K c1 hfr1 hbd1
                    go_wp2_with fail
                    refine K2.mono ?_
                    rintro e' w2 ⟨rfl, hfr2, hbd2⟩
                    clear K2
                    obtain ⟨y, ey⟩ : ∃ y : Nat, y = 0 := ⟨_, rfl⟩
                    subst ey
                    have HFE : Hid (Fr W0 w2 rb wb pb b (.slice (some ⟨g, 0, none⟩) n cap) xv' ts2) := hfr2
                    have KE : ∀ T, Calls Tryf.prog 25 #[.string Tryf.fmtKind, .slice (some ⟨w2.heap.size, 0, none⟩) 1 1] (w2.alloc (.cells #[.iface 5 (.int .u8 0)] T)) fun e w5 => ∃ t v, e = .returned (.iface t v) ∧ Below w2.heap.size w2 w5 := fun T => dwErr HF.out hfr2 0 T
                    go_wp2_with fail
                    refine (KE _).mono ?_
                    rintro e' w5 ⟨t5, v5, rfl, hb5⟩
                    have KF := (dwFail_bad (HFE.out.later hb5) (hbd2.later hb5) (.iface t5 v5))
                    clear KE hb5
                    go_wp2_with fail
                    refine KF.mono ?_
                    rintro e' w6 ⟨rfl, hfr6, hbd6⟩
                    have HI' : Hid (DBad W0 w6 rb wb pb b (.slice (some ⟨g, 0, none⟩) n cap) xv' ts2) := HI.out.short hc0 (by omega) hfr6 hbd6
                    have hm' : rdLeft rb w6 < rdLeft rb wr := by rw [HI'.out.rd.left, HI.out.rd.left]; omega
                    clear KF hfr6 hbd6 HFE
                    go_wp2
                    go_roundw
                    case rel => exact ⟨cnt2 - 1, by go_num, by omega, .inr ⟨_, HI'⟩⟩
                    case measure => exact hm'
              · obtain ⟨p3, t3, v3, hrd3⟩ := HI.out.rd
                obtain ⟨A3, _, _, c1, _⟩ := hrd3.cells
                have hm' := HM.out wr (.inr HI.out.rd)
                clear hrd3
                by_cases hc0 : cnt2 = 0
                · subst hc0
                  go_wp2
                  go_roundw
                  case rel => exact .inr ⟨_, _, _, HI⟩
                  case measure => exact hm'
                · have hc1 : 0 < cnt2 := by omega
                  go_wp2
                  go_roundw
                  case rel => exact .inr ⟨_, _, _, HI⟩
                  case measure => exact hm'
      · obtain ⟨A, hA, c0, c1, f0, f1⟩ := HD.out.rd.cells
        rw [show b.length - p = 0 by omega] at c0
        obtain ⟨bad, hre⟩ := HD.out.reach
        have hen := reach_stop hre hlt
        clear hA hre
        have hw := HD.out.fr.ws.row
        have ht := HT0.out.of_block (HD.out.fr.below.block tb HTB.out)
        have cw0 : wr.cell? ⟨wb, 0, none⟩ = some tv := hw.cell (i := 0) (by decide)
        have cw1 : wr.cell? ⟨wb, 1, none⟩ = some xv := hw.cell (i := 1) (by decide)
        have ct0 : wr.cell? ⟨tb, 0, none⟩ = some (.slice none 0 0) := ht.cell (i := 0) (by decide)
        have ct1 : wr.cell? ⟨tb, 1, none⟩ = some (.map none) := ht.cell (i := 1) (by decide)
        have ft0 : wr.frozen? ⟨tb, 0, none⟩ = false := ht.frozen 0
        have ft1 : wr.frozen? ⟨tb, 1, none⟩ = false := ht.frozen 1
        have st0 : ∀ (x : World) (a : Addr), (store a tv).run Tryf.prog x = stored Tryf.prog x a tv .plain := fun x a => run_store _ x a tv _ HD.out.fr.ws.one.1
        have st1 : ∀ (x : World) (a : Addr), (store a xv).run Tryf.prog x = stored Tryf.prog x a xv .plain := fun x a => run_store _ x a xv _ HD.out.fr.ws.one.2
        have hne : rb ≠ tb := by have := HTB.out; have := HD.out.fr.rlo; omega
        have c1' : ((wr.setCell ⟨tb, 0, none⟩ tv).setCell ⟨tb, 1, none⟩ xv).cell? ⟨rb, 1, none⟩ = some (.nilIface) := by
          rw [set2_cell hne]
          exact c1
        have HO := out_of HD.out.fr HTB.out HTW.out HB0.out.1 HT0.out
        have HG : Hid (GotWrites (.returned (.tuple #[.agg #[tv, xv], .nilIface])) w ((wr.setCell ⟨tb, 0, none⟩ tv).setCell ⟨tb, 1, none⟩ xv).drew b) := ⟨tv, xv, ts, _, _, rfl, HO.1, HO.2.1, hen, .inl ⟨rfl, rfl⟩, HO.2.2.1, HO.2.2.2.1, HD.out.fr.ws.one.2⟩
        have HL : Hid ((loadVar 31 ⟨tb, 0, none⟩).run Tryf.prog ((wr.setCell ⟨tb, 0, none⟩ tv).setCell ⟨tb, 1, none⟩ xv).drew = .ok (.agg #[tv, xv]) ((wr.setCell ⟨tb, 0, none⟩ tv).setCell ⟨tb, 1, none⟩ xv).drew) := HO.2.2.2.2
        clear HO hw ht
        go_wp2
        go_region
        go_wp2
        (try simp only [Exit.inBlock, Exit.then])
        refine bodyPost_ret (v := .tuple #[.agg #[tv, xv], .nilIface]) ?_ rfl HG.out
        exact ret_of HL.out rfl rfl
    · obtain ⟨p, t0, v0, hrd⟩ := HD.out.rd
      obtain ⟨A, hA, c0, c1, f0, f1⟩ := hrd.cells
      obtain ⟨L, eL⟩ : ∃ L, L = b.length - p := ⟨_, rfl⟩
      rw [← eL] at c0
      have hL : L ≤ 65536 := by omega
      clear hA hrd eL
      have hw := HD.out.fr.ws.row
      have ht := HT0.out.of_block (HD.out.fr.below.block tb HTB.out)
      have cw0 : wr.cell? ⟨wb, 0, none⟩ = some tv := hw.cell (i := 0) (by decide)
      have cw1 : wr.cell? ⟨wb, 1, none⟩ = some xv := hw.cell (i := 1) (by decide)
      have ct0 : wr.cell? ⟨tb, 0, none⟩ = some (.slice none 0 0) := ht.cell (i := 0) (by decide)
      have ct1 : wr.cell? ⟨tb, 1, none⟩ = some (.map none) := ht.cell (i := 1) (by decide)
      have ft0 : wr.frozen? ⟨tb, 0, none⟩ = false := ht.frozen 0
      have ft1 : wr.frozen? ⟨tb, 1, none⟩ = false := ht.frozen 1
      have st0 : ∀ (x : World) (a : Addr), (store a tv).run Tryf.prog x = stored Tryf.prog x a tv .plain := fun x a => run_store _ x a tv _ HD.out.fr.ws.one.1
      have st1 : ∀ (x : World) (a : Addr), (store a xv).run Tryf.prog x = stored Tryf.prog x a xv .plain := fun x a => run_store _ x a xv _ HD.out.fr.ws.one.2
      have hne : rb ≠ tb := by have := HTB.out; have := HD.out.fr.rlo; omega
      have c1' : ((wr.setCell ⟨tb, 0, none⟩ tv).setCell ⟨tb, 1, none⟩ xv).cell? ⟨rb, 1, none⟩ = some (.iface t0 v0) := by
        rw [set2_cell hne]
        exact c1
      have HO := out_of HD.out.fr HTB.out HTW.out HB0.out.1 HT0.out
      have HG : Hid (GotWrites (.returned (.tuple #[.agg #[tv, xv], .iface t0 v0])) w ((wr.setCell ⟨tb, 0, none⟩ tv).setCell ⟨tb, 1, none⟩ xv).drew b) := ⟨tv, xv, ts, _, _, rfl, HO.1, HO.2.1, HD.out.ends, .inr ⟨⟨_, _, rfl⟩, rfl⟩, HO.2.2.1, HO.2.2.2.1, HD.out.fr.ws.one.2⟩
      have HL : Hid ((loadVar 31 ⟨tb, 0, none⟩).run Tryf.prog ((wr.setCell ⟨tb, 0, none⟩ tv).setCell ⟨tb, 1, none⟩ xv).drew = .ok (.agg #[tv, xv]) ((wr.setCell ⟨tb, 0, none⟩ tv).setCell ⟨tb, 1, none⟩ xv).drew) := HO.2.2.2.2
      clear HO hw ht
      by_cases hL0 : 0 < L
      · go_wp2
        go_region
        go_wp2
        (try simp only [Exit.inBlock, Exit.then])
        refine bodyPost_ret (v := .tuple #[.agg #[tv, xv], .iface t0 v0]) ?_ rfl HG.out
        exact ret_of HL.out rfl rfl
      · obtain rfl : L = 0 := by omega
        go_wp2
        go_region
        go_wp2
        (try simp only [Exit.inBlock, Exit.then])
        refine bodyPost_ret (v := .tuple #[.agg #[tv, xv], .iface t0 v0]) ?_ rfl HG.out
        exact ret_of HL.out rfl rfl
end Go.Proofs.Qxb6616086aFmt

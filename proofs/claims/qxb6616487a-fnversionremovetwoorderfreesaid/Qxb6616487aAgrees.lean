import Derived.Test.Qxb6616487aStrike
import Derived.Test.Qxb6616487aBSt
import Derived.Test.Qxb6616487aYield
/-! THE WALK of agrees. -/
namespace Go.Proofs.Qxb6616487a
open Go.RowKit

structure Ag (W w : World) (a : Option Addr) (n : Nat) (A : Nat → Option Addr) (C : Nat → Nat) (B : Pairs) (L bV capV : Nat) (bs : List Blk) (bW : Nat) (done : List Blk) (ds : List Nat) (s1 s2 t1 t2 : Int) : Prop where
  inp : InB W a n A C B
  fit : Fits B n
  low : Below W.heap.size W w
  st : VSt w L bV capV bs
  dl : done.length = n
  dsl : ds.length = n
  lens : ∀ j, j < n → lenB done j = lenAt B j
  same : ∀ j k, j < n → k < lenAt B j → (ver done j k).ts = tsAt B j k ∧ (ver done j k).rts = rtsAt B j k
  wrs : w.rowIs bW 73 n (wrCell B ds)
  wrows : ∀ j, j < n → w.rowIs (ds.getD j 0) 38 (lenAt B j) (ptrCell (blk done j).vs)
  eq : bs.map (·.vs) = strike t1 t2 (done.map (·.vs))
  idx : ∀ j k, j < n → k < lenAt B j → (((pre B j k).length : Int) = s1 ↔ tsAt B j k = t1) ∧ (((pre B j k).length : Int) = s2 ↔ tsAt B j k = t2)

section
variable {W w w' : World} {a : Option Addr} {n : Nat} {A : Nat → Option Addr} {C : Nat → Nat} {B : Pairs} {L bV capV : Nat} {bs : List Blk} {bW : Nat} {done : List Blk} {ds : List Nat} {s1 s2 t1 t2 : Int}
theorem Ag.of_below (h : Ag W w a n A C B L bV capV bs bW done ds s1 s2 t1 t2) (hb : Below w.heap.size w w') : Ag W w' a n A C B L bV capV bs bW done ds s1 s2 t1 t2 :=
  ⟨h.inp, h.fit, h.low.trans (hb.mono h.low.size), h.st.below hb, h.dl, h.dsl, h.lens, h.same, h.wrs.of_block (hb.block _ h.wrs.lt), fun j hj => (h.wrows j hj).of_block (hb.block _ (h.wrows j hj).lt), h.eq, h.idx⟩
theorem Ag.wcell (h : Ag W w a n A C B L bV capV bs bW done ds s1 s2 t1 t2) {i : Nat} (hi : i < n) : w.cell? ⟨bW, i, none⟩ = some (.slice (some ⟨ds.getD i 0, 0, none⟩) (lenAt B i) (lenAt B i)) := by
  have hd := h.dsl
  rw [h.wrs.cell hi]
  simp [wrCell, hd, hi]
theorem Ag.pcell (h : Ag W w a n A C B L bV capV bs bW done ds s1 s2 t1 t2) {i k : Nat} (hi : i < n) (hk : k < lenAt B i) : w.cell? ⟨ds.getD i 0, k, none⟩ = some (.pointer (some ⟨(ver done i k).p, 0, none⟩)) := by
  have hl := h.lens i hi
  unfold lenB at hl
  rw [(h.wrows i hi).cell hk]
  simp [ptrCell, ver, hl, hk]
theorem Ag.keep_iff (h : Ag W w a n A C B L bV capV bs bW done ds s1 s2 t1 t2) {i k : Nat} (hi : i < n) (hk : k < lenAt B i) : keep t1 t2 (ver done i k) = true ↔ ¬ ((pre B i k).length : Int) = s1 ∧ ¬ ((pre B i k).length : Int) = s2 := by
  have h1 := h.idx i k hi hk
  have h2 := (h.same i k hi hk).1
  unfold keep
  rw [h2, Bool.and_eq_true, decide_eq_true_iff, decide_eq_true_iff, h1.1, h1.2]
end

theorem pre_add (B : Pairs) (i k : Nat) (h : k ≤ lenAt B i) : (pre B i k).length = (pre B i 0).length + k := by
  unfold lenAt at h
  simp [pre]; omega

set_option maxRecDepth 20000 in
set_option maxHeartbeats 8000000 in
theorem agrees_any {W w : World} {a : Option Addr} {n cap : Nat} {A : Nat → Option Addr} {C : Nat → Nat} {B : Pairs} {L bV capV : Nat} {bs : List Blk} {bW : Nat} {done : List Blk} {ds : List Nat} {s1 s2 t1 t2 : Int}
    (h : Ag W w a n A C B L bV capV bs bW done ds s1 s2 t1 t2) :
    Calls Try.prog 30 #[.slice (some ⟨bV, 0, none⟩) bs.length capV, .slice a n cap, .slice (some ⟨bW, 0, none⟩) n n, .int .i64 s1, .int .i64 s2] w fun e w' => e = .returned (.bool true) ∧ Below w.heap.size w w' := by
  have H : Hid (Ag W w a n A C B L bV capV bs bW done ds s1 s2 t1 t2) := h
  have hn := h.fit.1
  have hcapV := h.st.cap
  clear h
  obtain ⟨n2, en2⟩ : ∃ n2, n2 = bs.length := ⟨_, rfl⟩
  rw [← en2] at hcapV ⊢
  have EN2 : Hid (n2 = bs.length) := en2
  clear en2
  go_enter Try.func30, Try.ntmps30
  go_wp2
  go_loopw [11, 12, 13] (fun x y z wr => ∃ (i eb f : Nat), i ≤ n ∧ x = .int .i64 eb ∧ y = .int .i64 f ∧ z = .int .i64 i ∧ Hid (eb = cnt t1 t2 done i) ∧ Hid (f = (pre B i 0).length) ∧ Below w.heap.size w wr) (fun _ _ z _ => n - (intOf z).toNat)
  case atStart => exact ⟨0, 0, 0, Nat.zero_le _, rfl, rfl, rfl, rfl, by rw [pre_zero]; rfl, Below.refl _ _⟩
  case round =>
    obtain ⟨i, eb, f, hi, rfl, rfl, rfl, HE, HFf, hbw⟩ := hrel
    have HR : Hid (Ag W wr a n A C B L bV capV bs bW done ds s1 s2 t1 t2) := H.out.of_below hbw
    obtain ⟨w0, ew⟩ : ∃ w0, w0 = wr := ⟨wr, rfl⟩
    subst ew
    by_cases hlt : i < n
    · obtain ⟨b, o, rfl, hc, hm⟩ := HR.out.inp.row' HR.out.low hlt
      have hl := HR.out.fit.2 i hlt
      clear hm
      obtain ⟨Ab, hAb⟩ : ∃ x, x = A i := ⟨_, rfl⟩
      rw [← hAb] at hc
      have HAb : Hid (Ab = A i) := hAb
      clear hAb
      have hpl := pre_len B n i (lenAt B i) HR.out.inp.len HR.out.fit hlt (Nat.le_refl _)
      have hpl0 := pre_len B n i 0 HR.out.inp.len HR.out.fit hlt (Nat.zero_le _)
      have hfb : f ≤ 4294967296 := by rw [HFf.out]; exact hpl0
      have hebb : eb ≤ 65536 := by rw [HE.out]; exact Nat.le_trans (cnt_le i) (by omega)
      clear hpl hpl0
      have hlb := HR.out.lens i hlt
      have HLB : Hid (lenB done i = lenAt B i) := hlb
      have hid : i < done.length := by rw [HR.out.dl]; exact hlt
      have HID : Hid (i < done.length) := hid
      clear hlb hid
      go_wp2
      go_loop [12, 15, 16] (fun x y z => ∃ (k ff kk : Nat), k ≤ lenAt B i ∧ x = .int .i64 ff ∧ y = .int .i64 kk ∧ z = .int .i64 k ∧ Hid (ff = (pre B i k).length) ∧ Hid (kk = (kl t1 t2 done i k).length)) (fun _ _ z => lenAt B i - (intOf z).toNat)
      case atStart => exact ⟨0, f, 0, Nat.zero_le _, rfl, rfl, rfl, HFf, rfl⟩
      case round =>
        obtain ⟨k, ff, kk, hk, rfl, rfl, rfl, HFF, HKK⟩ := hrel
        have hffb : ff ≤ 4294967296 := by rw [HFF.out]; exact pre_len B n i k HR.out.inp.len HR.out.fit hlt hk
        have hkkb : kk ≤ 65536 := by rw [HKK.out]; exact Nat.le_trans kl_le (by omega)
        by_cases hlk : k < lenAt B i
        · have KI := HR.out.keep_iff hlt hlk
          rw [← HFF.out] at KI
          have KS := kl_succ (t1 := t1) (t2 := t2) (done := done) (i := i) (k := k) (by rw [HLB.out]; exact hlk)
          have PS : Hid ((pre B i (k + 1)).length = ff + 1) := by show _ = _; rw [pre_succ B i k hlk, HFF.out]; simp
          by_cases hs1 : ((ff : Int) == s1) = true
          · have hs1' : ((ff : Int) != s1) = false := by rw [bne, hs1]; rfl
            have NK : Hid (kk = (kl t1 t2 done i (k + 1)).length) := by
              show _ = _
              rw [KS, if_neg (by rw [KI]; intro q; exact q.1 (by simpa using hs1))]; exact HKK.out
            clear KI KS hs1
            go_wp2
            go_round
            case rel => exact ⟨k + 1, ff + 1, kk, by omega, by go_num, rfl, by go_num, PS.out.symm, NK⟩
            case measure => simp [intOf]; omega
          · have hs1' : ((ff : Int) != s1) = true := by rw [bne]; simp at hs1 ⊢; exact hs1
            by_cases hs2 : ((ff : Int) == s2) = true
            · have hs2' : ((ff : Int) != s2) = false := by rw [bne, hs2]; rfl
              have NK : Hid (kk = (kl t1 t2 done i (k + 1)).length) := by
                show _ = _
                rw [KS, if_neg (by rw [KI]; intro q; exact q.2 (by simpa using hs2))]; exact HKK.out
              clear KI KS hs1 hs2
              go_wp2
              go_round
              case rel => exact ⟨k + 1, ff + 1, kk, by omega, by go_num, rfl, by go_num, PS.out.symm, NK⟩
              case measure => simp [intOf]; omega
            · have hs2' : ((ff : Int) != s2) = true := by rw [bne]; simp at hs2 ⊢; exact hs2
              have NK : Hid (kk + 1 = (kl t1 t2 done i (k + 1)).length) := by
                show _ = _
                rw [KS, if_pos (by rw [KI]; exact ⟨by simpa using hs1, by simpa using hs2⟩), List.length_append, HKK.out]; rfl
              clear KI KS hs1 hs2
              go_wp2
              go_round
              case rel => exact ⟨k + 1, ff + 1, kk + 1, by omega, by go_num, by go_num, by go_num, PS.out.symm, NK⟩
              case measure => simp [intOf]; omega
        · have hke : k = lenAt B i := by omega
          subst hke
          have PR : Hid (ff = (pre B (i + 1) 0).length) := by show _ = _; rw [HFF.out, pre_row B i (by rw [HR.out.inp.len]; exact hlt)]
          have KF : Hid (kl t1 t2 done i (lenB done i) = kl t1 t2 done i (lenAt B i)) := by show _ = _; rw [HLB.out]
          by_cases hz : kk = 0
          · subst hz
            have NE : Hid (eb = cnt t1 t2 done (i + 1)) := by
              show _ = _
              rw [cnt_skip HID.out (by rw [KF.out]; exact List.length_eq_zero_iff.1 HKK.out.symm)]; exact HE.out
            go_wp2
            go_roundw
            case rel => exact ⟨i + 1, eb, ff, by omega, rfl, rfl, by go_num, NE, PR, hbw⟩
            case measure => simp [intOf]; omega
          · have hkz : ((kk : Int) == 0) = false := by simp; exact hz
            have h0 : kl t1 t2 done i (lenB done i) ≠ [] := by rw [KF.out]; intro q; rw [q] at HKK; exact hz HKK.out
            obtain ⟨q1, q2⟩ := at_block HR.out.eq HID.out h0
            rw [← HE.out] at q1 q2
            have hoc := HR.out.st.outc q1
            have hlE : lenB bs eb = kk := by unfold lenB; rw [q2, KF.out, HKK.out]
            rw [hlE] at hoc
            have hq1 : eb < n2 := by rw [EN2.out]; exact q1
            have HQ1 : Hid (eb < bs.length) := q1
            have HLE : Hid (lenB bs eb = kk) := hlE
            obtain ⟨c, ec⟩ : ∃ c, c = (blk bs eb).c := ⟨_, rfl⟩
            obtain ⟨cp, ecp⟩ : ∃ cp, cp = (blk bs eb).cap := ⟨_, rfl⟩
            rw [← ec, ← ecp] at hoc
            have EC : Hid (c = (blk bs eb).c) := ec
            have H0 : Hid (kl t1 t2 done i (lenB done i) ≠ []) := h0
            clear h0 q1 q2 hlE ec ecp
            go_wp2
            go_loopw [17, 18] (fun x y wi => ∃ (k j : Nat), k ≤ lenAt B i ∧ x = .int .i64 j ∧ y = .int .i64 k ∧ Hid (j = (kl t1 t2 done i k).length) ∧ Below w.heap.size w wi) (fun _ y _ => lenAt B i - (intOf y).toNat)
            case atStart => exact ⟨0, 0, Nat.zero_le _, rfl, rfl, rfl, hbw⟩
            case round =>
              clear hbw HR hoc hc
              obtain ⟨wi, ewi⟩ : ∃ wi, wi = wr := ⟨wr, rfl⟩
              subst ewi
              obtain ⟨k, j, hk, rfl, rfl, HJ, hbw⟩ := hrel
              have HR : Hid (Ag W wi _ n A C B L bV capV bs bW done ds s1 s2 t1 t2) := H.out.of_below hbw
              obtain ⟨b', o', e', hcI, _⟩ := HR.out.inp.row' HR.out.low hlt
              simp only [Option.some.injEq, Addr.mk.injEq] at e'
              obtain ⟨rfl, rfl, _⟩ := e'
              rw [← HAb.out] at hcI
              have hjb : j ≤ 65536 := by rw [HJ.out]; exact Nat.le_trans kl_le (by omega)
              by_cases hlk : k < lenAt B i
              · have KI := HR.out.keep_iff hlt hlk
                have PL : (pre B i k).length = f + k := by rw [HFf.out]; exact pre_add B i k (by omega)
                rw [PL] at KI
                have KS := kl_succ (t1 := t1) (t2 := t2) (done := done) (i := i) (k := k) (by rw [HLB.out]; exact hlk)
                by_cases hs1 : ((f : Int) + (k : Int) == s1) = true
                · have NK : Hid (j = (kl t1 t2 done i (k + 1)).length) := by
                    show _ = _
                    rw [KS, if_neg (by rw [KI]; intro q; exact q.1 (by have : (f : Int) + k = s1 := by simpa using hs1
                                                                       rw [← this]; omega))]; exact HJ.out
                  clear KI KS PL
                  go_wp2
                  go_roundw
                  case rel => exact ⟨k + 1, j, by omega, rfl, by go_num, NK, hbw⟩
                  case measure => simp [intOf]; omega
                · have hs1 : ((f : Int) + (k : Int) == s1) = false := by simpa using hs1
                  by_cases hs2 : ((f : Int) + (k : Int) == s2) = true
                  · have NK : Hid (j = (kl t1 t2 done i (k + 1)).length) := by
                      show _ = _
                      rw [KS, if_neg (by rw [KI]; intro q; exact q.2 (by have : (f : Int) + k = s2 := by simpa using hs2
                                                                         rw [← this]; omega))]; exact HJ.out
                    clear KI KS PL
                    go_wp2
                    go_roundw
                    case rel => exact ⟨k + 1, j, by omega, rfl, by go_num, NK, hbw⟩
                    case measure => simp [intOf]; omega
                  · have hs2 : ((f : Int) + (k : Int) == s2) = false := by simpa using hs2
                    have HKP : keep t1 t2 (ver done i k) = true := by
                      rw [KI]
                      simp at hs1 hs2
                      exact ⟨fun q => hs1 (by rw [← q]; omega), fun q => hs2 (by rw [← q]; omega)⟩
                    have NK : Hid (j + 1 = (kl t1 t2 done i (k + 1)).length) := by
                      show _ = _
                      rw [KS, if_pos HKP, List.length_append, HJ.out]; rfl
                    obtain ⟨q1, q2⟩ := at_ver HR.out.eq HID.out (by rw [HLB.out]; exact hlk) HKP
                    rw [← HE.out, ← HJ.out] at q1 q2
                    have hoc := HR.out.st.outc HQ1.out
                    have hev := HR.out.st.even HQ1.out q1
                    have hod := HR.out.st.odd HQ1.out q1
                    have hts := HR.out.st.ts HQ1.out q1
                    rw [q2] at hev hod hts
                    obtain ⟨sm1, sm2⟩ := HR.out.same i k hlt hlk
                    have hwc := HR.out.wcell hlt
                    have hpc := HR.out.pcell hlt hlk
                    obtain ⟨b2, o2, hA, he1, he2⟩ := HR.out.inp.elem' HR.out.low hlt hlk
                    have eAb := HAb.out.trans hA
                    subst eAb
                    obtain ⟨p, ep⟩ : ∃ p, p = (ver done i k).p := ⟨_, rfl⟩
                    obtain ⟨ts, ets⟩ : ∃ ts, ts = tsAt B i k := ⟨_, rfl⟩
                    obtain ⟨rts, erts⟩ : ∃ rts, rts = rtsAt B i k := ⟨_, rfl⟩
                    obtain ⟨d, ed⟩ : ∃ d, d = ds.getD i 0 := ⟨_, rfl⟩
                    rw [HLE.out, ← EC.out] at hoc
                    rw [HLE.out] at q1
                    rw [← EC.out, ← ep] at hev
                    rw [← EC.out, sm2, ← erts] at hod
                    rw [sm1, ← ets, ← ep] at hts
                    rw [← ed] at hwc hpc
                    rw [← ep] at hpc
                    rw [← ets] at he1
                    rw [← erts] at he2
                    have HCI : Hid (wi.cell? ⟨b, o + i, none⟩ = some (.slice (some ⟨b2, o2, none⟩) (lenAt B i) (C i))) := hcI
                    clear KI KS PL HKP q2 sm1 sm2 hA HAb ep ets erts ed
                    go_wp2_with fail
                    have S24 : (wi.alloc (.cells #[.pointer (some ⟨p, 0, none⟩), .int .i64 rts] 93)).cell? ⟨wi.heap.size, 0, none⟩ = some (.pointer (some ⟨p, 0, none⟩)) ∧ (wi.alloc (.cells #[.pointer (some ⟨p, 0, none⟩), .int .i64 rts] 93)).cell? ⟨wi.heap.size, 1, none⟩ = some (.int .i64 rts) ∧ (wi.alloc (.cells #[.pointer (some ⟨p, 0, none⟩), .int .i64 rts] 93)).cell? ⟨bW, i, none⟩ = some (.slice (some ⟨d, 0, none⟩) (lenAt B i) (lenAt B i)) ∧ (wi.alloc (.cells #[.pointer (some ⟨p, 0, none⟩), .int .i64 rts] 93)).cell? ⟨d, k, none⟩ = some (.pointer (some ⟨p, 0, none⟩)) :=
                      ⟨by simp, by simp, Lib.cell?_alloc_some _ hwc, Lib.cell?_alloc_some _ hpc⟩
                    refine wp_region_held (S := fun wz => wz.cell? ⟨wi.heap.size, 0, none⟩ = some (.pointer (some ⟨p, 0, none⟩)) ∧ wz.cell? ⟨wi.heap.size, 1, none⟩ = some (.int .i64 rts) ∧ wz.cell? ⟨bW, i, none⟩ = some (.slice (some ⟨d, 0, none⟩) (lenAt B i) (lenAt B i)) ∧ wz.cell? ⟨d, k, none⟩ = some (.pointer (some ⟨p, 0, none⟩))) (by kernel_rfl) ?_
                    change wpAnyH _ _ _ _ _ _ _ _ (World.drew _)
                    refine takeD (i := 0) (v := .agg #[.pointer (some ⟨p, 0, none⟩), .int .i64 rts]) 91 rfl rfl (by kernel_rfl) (by kernel_rfl) (by kernel_rfl) (fun _ _ _ h => h) (.inl ⟨by rfl, fun wz hS => by obtain ⟨z0, z1, z2, z3⟩ := hS; go_simp⟩) S24 ?_
                    simp only [Act.put, List.setIfInBounds_toArray, List.set_cons_zero, List.set_cons_succ]
                    refine takeD (i := 2) (v := .slice (some ⟨bW, 0, none⟩) n n) 93 rfl rfl (by kernel_rfl) (by kernel_rfl) (by kernel_rfl) (fun _ _ _ h => h) (.inl ⟨by rfl, fun _ _ => rfl⟩) S24 ?_
                    simp only [Act.put, List.setIfInBounds_toArray, List.set_cons_zero, List.set_cons_succ]
                    refine takeD (i := 3) (v := .int .i64 i) 94 rfl rfl (by kernel_rfl) (by kernel_rfl) (by kernel_rfl) (fun _ _ _ h => h) (.inl ⟨by rfl, fun _ _ => rfl⟩) S24 ?_
                    simp only [Act.put, List.setIfInBounds_toArray, List.set_cons_zero, List.set_cons_succ]
                    refine takeD (i := 4) (v := .pointer (some ⟨bW, i, none⟩)) 95 rfl rfl (by kernel_rfl) (by kernel_rfl) (by kernel_rfl) (fun _ _ _ h => h) (.inl ⟨by rfl, fun wz hS => by clear hS; go_simp⟩) S24 ?_
                    simp only [Act.put, List.setIfInBounds_toArray, List.set_cons_zero, List.set_cons_succ]
                    refine takeD (i := 5) (v := .slice (some ⟨d, 0, none⟩) (lenAt B i) (lenAt B i)) 96 rfl rfl (by kernel_rfl) (by kernel_rfl) (by kernel_rfl) (fun _ _ _ h => h) (.inl ⟨by rfl, fun wz hS => by obtain ⟨z0, z1, z2, z3⟩ := hS; go_simp⟩) S24 ?_
                    simp only [Act.put, List.setIfInBounds_toArray, List.set_cons_zero, List.set_cons_succ]
                    refine takeD (i := 6) (v := .int .i64 k) 97 rfl rfl (by kernel_rfl) (by kernel_rfl) (by kernel_rfl) (fun _ _ _ h => h) (.inl ⟨by rfl, fun _ _ => rfl⟩) S24 ?_
                    simp only [Act.put, List.setIfInBounds_toArray, List.set_cons_zero, List.set_cons_succ]
                    refine takeD (i := 7) (v := .pointer (some ⟨d, k, none⟩)) 98 rfl rfl (by kernel_rfl) (by kernel_rfl) (by kernel_rfl) (fun _ _ _ h => h) (.inl ⟨by rfl, fun wz hS => by clear hS; go_simp⟩) S24 ?_
                    simp only [Act.put, List.setIfInBounds_toArray, List.set_cons_zero, List.set_cons_succ]
                    refine takeD (i := 8) (v := .pointer (some ⟨p, 0, none⟩)) 99 rfl rfl (by kernel_rfl) (by kernel_rfl) (by kernel_rfl) (fun _ _ _ h => h) (.inl ⟨by rfl, fun wz hS => by obtain ⟨z0, z1, z2, z3⟩ := hS; go_simp⟩) S24 ?_
                    simp only [Act.put, List.setIfInBounds_toArray, List.set_cons_zero, List.set_cons_succ]
                    refine wpAnyH_all (rs := [1]) (by kernel_rfl) (by simp) ?_
                    intro z hz
                    obtain rfl : z = 1 := by simpa using hz
                    clear hz
                    refine wpOp_step rfl (fun K hK => ?_)
                    go_simp
                    refine (writer_any (.pointer (some ⟨p, 0, none⟩)) rts _ ⟨_, rfl⟩).mono ?_
                    rintro e w1 ⟨rfl, hb1⟩
                    have S25 : _ ∧ _ ∧ _ ∧ _ := ⟨cell_below hb1 S24.1, cell_below hb1 S24.2.1, cell_below hb1 S24.2.2.1, cell_below hb1 S24.2.2.2⟩
                    refine hK _ _ ⟨S25, ?_⟩
                    clear hK K
                    have hneq := neq38 ⟨p, 0, none⟩
                    refine takeD (i := 9) (v := .bool false) 100 rfl rfl (by kernel_rfl) (by kernel_rfl) (by kernel_rfl) (fun _ _ _ h => h) (.inl ⟨by rfl, fun wz hS => by clear hS; go_simp⟩) S25 ?_
                    simp only [Act.put, List.setIfInBounds_toArray, List.set_cons_zero, List.set_cons_succ]
                    clear hneq
                    refine wpAnyH_done (by kernel_rfl) ?_ _
                    have hb1' : Below wi.heap.size wi w1 := ((Below.refl _ wi).alloc (Nat.le_refl _) _).drew.trans (hb1.mono (by simp))
                    have S26 : w1.cell? ⟨wi.heap.size, 0, none⟩ = some (.pointer (some ⟨p, 0, none⟩)) ∧ w1.cell? ⟨wi.heap.size, 1, none⟩ = some (.int .i64 rts) ∧ w1.cell? ⟨b, o + i, none⟩ = some (.slice (some ⟨b2, o2, none⟩) (lenAt B i) (C i)) ∧ w1.cell? ⟨b2, o2 + k * 2, none⟩ = some (.int .i64 ts) ∧ w1.cell? ⟨b2, o2 + k * 2 + 1, none⟩ = some (.int .i64 rts) :=
                      ⟨S25.1, S25.2.1, cell_below hb1' HCI.out, cell_below hb1' he1, cell_below hb1' he2⟩
                    clear S24 S25 hcI hoc hev hod hwc hpc he1 he2
                    go_wp2_with fail
                    refine wp_region_held (S := fun wz => wz.cell? ⟨wi.heap.size, 0, none⟩ = some (.pointer (some ⟨p, 0, none⟩)) ∧ wz.cell? ⟨wi.heap.size, 1, none⟩ = some (.int .i64 rts) ∧ wz.cell? ⟨b, o + i, none⟩ = some (.slice (some ⟨b2, o2, none⟩) (lenAt B i) (C i)) ∧ wz.cell? ⟨b2, o2 + k * 2, none⟩ = some (.int .i64 ts) ∧ wz.cell? ⟨b2, o2 + k * 2 + 1, none⟩ = some (.int .i64 rts)) (by kernel_rfl) ?_
                    change wpAnyH _ _ _ _ _ _ _ _ (World.drew _)
                    refine takeD (i := 0) (v := .agg #[.pointer (some ⟨p, 0, none⟩), .int .i64 rts]) 101 rfl rfl (by kernel_rfl) (by kernel_rfl) (by kernel_rfl) (fun _ _ _ h => h) (.inl ⟨by rfl, fun wz hS => by obtain ⟨z0, z1, z2, z3, z4⟩ := hS; go_simp⟩) S26 ?_
                    simp only [Act.put, List.setIfInBounds_toArray, List.set_cons_zero, List.set_cons_succ]
                    refine takeD (i := 2) (v := .slice (some ⟨b, o, none⟩) n cap) 103 rfl rfl (by kernel_rfl) (by kernel_rfl) (by kernel_rfl) (fun _ _ _ h => h) (.inl ⟨by rfl, fun _ _ => rfl⟩) S26 ?_
                    simp only [Act.put, List.setIfInBounds_toArray, List.set_cons_zero, List.set_cons_succ]
                    refine takeD (i := 3) (v := .int .i64 i) 104 rfl rfl (by kernel_rfl) (by kernel_rfl) (by kernel_rfl) (fun _ _ _ h => h) (.inl ⟨by rfl, fun _ _ => rfl⟩) S26 ?_
                    simp only [Act.put, List.setIfInBounds_toArray, List.set_cons_zero, List.set_cons_succ]
                    refine takeD (i := 4) (v := .pointer (some ⟨b, o + i, none⟩)) 105 rfl rfl (by kernel_rfl) (by kernel_rfl) (by kernel_rfl) (fun _ _ _ h => h) (.inl ⟨by rfl, fun wz hS => by clear hS; go_simp⟩) S26 ?_
                    simp only [Act.put, List.setIfInBounds_toArray, List.set_cons_zero, List.set_cons_succ]
                    refine takeD (i := 5) (v := .slice (some ⟨b2, o2, none⟩) (lenAt B i) (C i)) 106 rfl rfl (by kernel_rfl) (by kernel_rfl) (by kernel_rfl) (fun _ _ _ h => h) (.inl ⟨by rfl, fun wz hS => by obtain ⟨z0, z1, z2, z3, z4⟩ := hS; go_simp⟩) S26 ?_
                    simp only [Act.put, List.setIfInBounds_toArray, List.set_cons_zero, List.set_cons_succ]
                    refine takeD (i := 6) (v := .int .i64 k) 107 rfl rfl (by kernel_rfl) (by kernel_rfl) (by kernel_rfl) (fun _ _ _ h => h) (.inl ⟨by rfl, fun _ _ => rfl⟩) S26 ?_
                    simp only [Act.put, List.setIfInBounds_toArray, List.set_cons_zero, List.set_cons_succ]
                    refine takeD (i := 7) (v := .pointer (some ⟨b2, o2 + k * 2, none⟩)) 108 rfl rfl (by kernel_rfl) (by kernel_rfl) (by kernel_rfl) (fun _ _ _ h => h) (.inl ⟨by rfl, fun wz hS => by clear hS; go_simp⟩) S26 ?_
                    simp only [Act.put, List.setIfInBounds_toArray, List.set_cons_zero, List.set_cons_succ]
                    refine takeD (i := 8) (v := .pointer (some ⟨b2, o2 + k * 2, none⟩)) 109 rfl rfl (by kernel_rfl) (by kernel_rfl) (by kernel_rfl) (fun _ _ _ h => h) (.inl ⟨by rfl, fun wz hS => by clear hS; go_simp⟩) S26 ?_
                    simp only [Act.put, List.setIfInBounds_toArray, List.set_cons_zero, List.set_cons_succ]
                    refine takeD (i := 9) (v := .int .i64 ts) 110 rfl rfl (by kernel_rfl) (by kernel_rfl) (by kernel_rfl) (fun _ _ _ h => h) (.inl ⟨by rfl, fun wz hS => by obtain ⟨z0, z1, z2, z3, z4⟩ := hS; go_simp⟩) S26 ?_
                    simp only [Act.put, List.setIfInBounds_toArray, List.set_cons_zero, List.set_cons_succ]
                    refine wpAnyH_all (rs := [1]) (by kernel_rfl) (by simp) ?_
                    intro z hz
                    obtain rfl : z = 1 := by simpa using hz
                    clear hz
                    refine wpOp_step rfl (fun K hK => ?_)
                    go_simp
                    refine (verTs_any p ts rts _ (by exact cell_below hb1 (Lib.cell?_alloc_some _ hts))).mono ?_
                    rintro e w2 ⟨rfl, hb2⟩
                    have S27 : _ ∧ _ ∧ _ ∧ _ ∧ _ := ⟨cell_below hb2 S26.1, cell_below hb2 S26.2.1, cell_below hb2 S26.2.2.1, cell_below hb2 S26.2.2.2.1, cell_below hb2 S26.2.2.2.2⟩
                    refine hK _ _ ⟨S27, ?_⟩
                    clear hK K
                    refine takeD (i := 10) (v := .bool false) 111 rfl rfl (by kernel_rfl) (by kernel_rfl) (by kernel_rfl) (fun _ _ _ h => h) (.inl ⟨by rfl, fun wz hS => by clear hS; go_simp⟩) S27 ?_
                    simp only [Act.put, List.setIfInBounds_toArray, List.set_cons_zero, List.set_cons_succ]
                    refine takeD (i := 11) (v := .bool false) 112 rfl rfl (by kernel_rfl) (by kernel_rfl) (by kernel_rfl) (fun _ _ _ h => h) (.inl ⟨by rfl, fun _ _ => rfl⟩) S27 ?_
                    simp only [Act.put, List.setIfInBounds_toArray, List.set_cons_zero, List.set_cons_succ]
                    refine takeD (i := 12) (v := .agg #[.pointer (some ⟨p, 0, none⟩), .int .i64 rts]) 113 rfl rfl (by kernel_rfl) (by kernel_rfl) (by kernel_rfl) (fun _ _ _ h => h) (.inl ⟨by go_simp, fun wz hS => by obtain ⟨z0, z1, z2, z3, z4⟩ := hS; go_simp⟩) S27 ?_
                    simp only [Act.put, List.setIfInBounds_toArray, List.set_cons_zero, List.set_cons_succ]
                    refine takeD (i := 14) (v := .slice (some ⟨b, o, none⟩) n cap) 115 rfl rfl (by kernel_rfl) (by kernel_rfl) (by kernel_rfl) (fun _ _ _ h => h) (.inl ⟨by go_simp, fun _ _ => rfl⟩) S27 ?_
                    simp only [Act.put, List.setIfInBounds_toArray, List.set_cons_zero, List.set_cons_succ]
                    refine takeD (i := 15) (v := .int .i64 i) 116 rfl rfl (by kernel_rfl) (by kernel_rfl) (by kernel_rfl) (fun _ _ _ h => h) (.inl ⟨by go_simp, fun _ _ => rfl⟩) S27 ?_
                    simp only [Act.put, List.setIfInBounds_toArray, List.set_cons_zero, List.set_cons_succ]
                    refine takeD (i := 16) (v := .pointer (some ⟨b, o + i, none⟩)) 117 rfl rfl (by kernel_rfl) (by kernel_rfl) (by kernel_rfl) (fun _ _ _ h => h) (.inl ⟨by go_simp, fun wz hS => by clear hS; go_simp⟩) S27 ?_
                    simp only [Act.put, List.setIfInBounds_toArray, List.set_cons_zero, List.set_cons_succ]
                    refine takeD (i := 17) (v := .slice (some ⟨b2, o2, none⟩) (lenAt B i) (C i)) 118 rfl rfl (by kernel_rfl) (by kernel_rfl) (by kernel_rfl) (fun _ _ _ h => h) (.inl ⟨by go_simp, fun wz hS => by obtain ⟨z0, z1, z2, z3, z4⟩ := hS; go_simp⟩) S27 ?_
                    simp only [Act.put, List.setIfInBounds_toArray, List.set_cons_zero, List.set_cons_succ]
                    refine takeD (i := 18) (v := .int .i64 k) 119 rfl rfl (by kernel_rfl) (by kernel_rfl) (by kernel_rfl) (fun _ _ _ h => h) (.inl ⟨by go_simp, fun _ _ => rfl⟩) S27 ?_
                    simp only [Act.put, List.setIfInBounds_toArray, List.set_cons_zero, List.set_cons_succ]
                    refine takeD (i := 19) (v := .pointer (some ⟨b2, o2 + k * 2, none⟩)) 120 rfl rfl (by kernel_rfl) (by kernel_rfl) (by kernel_rfl) (fun _ _ _ h => h) (.inl ⟨by go_simp, fun wz hS => by clear hS; go_simp⟩) S27 ?_
                    simp only [Act.put, List.setIfInBounds_toArray, List.set_cons_zero, List.set_cons_succ]
                    refine takeD (i := 20) (v := .pointer (some ⟨b2, o2 + k * 2 + 1, none⟩)) 121 rfl rfl (by kernel_rfl) (by kernel_rfl) (by kernel_rfl) (fun _ _ _ h => h) (.inl ⟨by go_simp, fun wz hS => by clear hS; go_simp⟩) S27 ?_
                    simp only [Act.put, List.setIfInBounds_toArray, List.set_cons_zero, List.set_cons_succ]
                    refine takeD (i := 21) (v := .int .i64 rts) 122 rfl rfl (by kernel_rfl) (by kernel_rfl) (by kernel_rfl) (fun _ _ _ h => h) (.inl ⟨by go_simp, fun wz hS => by obtain ⟨z0, z1, z2, z3, z4⟩ := hS; go_simp⟩) S27 ?_
                    simp only [Act.put, List.setIfInBounds_toArray, List.set_cons_zero, List.set_cons_succ]
                    refine wpAnyH_all (rs := [13]) (by kernel_rfl) (by simp) ?_
                    intro z hz
                    obtain rfl : z = 13 := by simpa using hz
                    clear hz
                    refine wpOp_step rfl (fun K hK => ?_)
                    go_simp
                    refine (verRts_any (.pointer (some ⟨p, 0, none⟩)) rts _ ⟨_, rfl⟩).mono ?_
                    rintro e w3 ⟨rfl, hb3⟩
                    have S28 : _ ∧ _ ∧ _ ∧ _ ∧ _ := ⟨cell_below hb3 S27.1, cell_below hb3 S27.2.1, cell_below hb3 S27.2.2.1, cell_below hb3 S27.2.2.2.1, cell_below hb3 S27.2.2.2.2⟩
                    refine hK _ _ ⟨S28, ?_⟩
                    clear hK K
                    refine takeD (i := 22) (v := .bool false) 123 rfl rfl (by kernel_rfl) (by kernel_rfl) (by kernel_rfl) (fun _ _ _ h => h) (.inl ⟨by go_simp, fun wz hS => by clear hS; go_simp⟩) S28 ?_
                    simp only [Act.put, List.setIfInBounds_toArray, List.set_cons_zero, List.set_cons_succ]
                    refine takeD (i := 23) (v := .bool false) 124 rfl rfl (by kernel_rfl) (by kernel_rfl) (by kernel_rfl) (fun _ _ _ h => h) (.inl ⟨by go_simp, fun wz hS => by clear hS; go_simp⟩) S28 ?_
                    simp only [Act.put, List.setIfInBounds_toArray, List.set_cons_zero, List.set_cons_succ]
                    refine wpAnyH_done (by kernel_rfl) ?_ _
                    have hb4 : Below w.heap.size w w3 := hbw.trans ((hb1'.trans (((Below.refl _ w1).drew.trans hb2).trans (hb3.mono (by have := hb2.size; simpa using this)) |>.mono hb1'.size)).mono hbw.size)
                    go_wp2
                    go_roundw
                    case rel => exact ⟨k + 1, j + 1, by omega, by go_num, by go_num, NK, hb4⟩
                    case measure => simp [intOf]; omega
              · have hke : k = lenAt B i := by omega
                subst hke
                have NE : Hid (eb + 1 = cnt t1 t2 done (i + 1)) := by
                  show _ = _
                  rw [cnt_step HID.out H0.out, HE.out]
                go_wp2
                go_roundw
                case rel => exact ⟨i + 1, eb + 1, ff, by omega, by go_num, rfl, by go_num, NE, PR, hbw⟩
                case measure => simp [intOf]; omega
    · have hie : i = n := by omega
      subst hie
      have hE2 : eb = n2 := by rw [HE.out, EN2.out, ← bs_len HR.out.eq, HR.out.dl]
      subst hE2
      go_wp2
      go_ret
      exact ⟨by simp, hbw⟩
end Go.Proofs.Qxb6616487a

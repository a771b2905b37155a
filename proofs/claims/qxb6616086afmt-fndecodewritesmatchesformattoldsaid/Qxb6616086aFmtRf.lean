import Derived.Test.Qxb6616086aFmtRd
/-! THE READER: field, kind. -/
namespace Go.Proofs.Qxb6616086aFmt
open Go.RowKit Go.Stop Go.Extern.Stop Go.Extern

theorem wpList_head {ops : Array Oper} {rest : List Oper} {o : Oper} {a : Act} {w : World} {Q : Exit → Act → World → Prop} (hgd : o.guard = none) (x hi : Operand) (hop : o.op = Op.slice 22 x none (some hi) none)
    (A : Addr) (L k : Nat) (hx : a.eval x = .slice (some A) L L) (hhi : a.eval hi = .int .u64 k) (hk : k ≤ L) (_hN : L ≤ 65536)
    (h : wpList Tryf.prog ops Q rest (a.put o.dst (.slice (some A) k L)) w) : wpList Tryf.prog ops Q (o :: rest) a w :=
  wpList_plain hgd fun K hK => by
    unfold Oper.wp
    simp only [execOp, hop, hx, hhi, Option.map_some, Option.map_none]
    go_simp
    exact hK _ _ h

theorem pay_turn {w w' : World} {rb pb : Nat} {b : List UInt8} (hc : PayIs w pb b) (hg : w.grownBy w' (some rb)) (hne : pb ≠ rb) : PayIs w' pb b := fun i hi => hg.cell (hc i hi) fun e => hne (Option.some.inj e)

theorem field_parts {b : List UInt8} {p s e : Nat} (h : fieldAt b p = some (s, e)) : ∃ n, uvAt b p = some (n, s) ∧ e = s + n ∧ n ≤ b.length - s := by
  unfold fieldAt at h
  cases hu : uvAt b p with
  | none => rw [hu] at h; cases h
  | some x =>
    rw [hu] at h
    obtain ⟨n, q⟩ := x
    simp only at h
    split at h
    · cases h
    · simp only [Option.some.injEq, Prod.mk.injEq] at h
      obtain ⟨rfl, rfl⟩ := h
      exact ⟨n, rfl, rfl, by omega⟩
theorem field_none_parts {b : List UInt8} {p : Nat} (h : fieldAt b p = none) : uvAt b p = none ∨ ∃ n q, uvAt b p = some (n, q) ∧ b.length - q < n := by
  unfold fieldAt at h
  cases hu : uvAt b p with
  | none => exact .inl rfl
  | some x =>
    rw [hu] at h
    obtain ⟨n, q⟩ := x
    simp only at h
    split at h
    · next hlt => exact .inr ⟨n, q, rfl, hlt⟩
    · cases h

def GotField (e : Ending) (w w' : World) (rb pb : Nat) (b : List UInt8) (s e2 : Nat) : Prop := ∃ A C, e = .returned (.slice (some A) (e2 - s) C) ∧ (s < b.length → A = ⟨pb, s, none⟩) ∧ Rd w' rb pb b e2 .nilIface ∧ w.grownBy w' (some rb)

set_option maxHeartbeats 1000000 in
theorem rdField_some (rb pb : Nat) (b : List UInt8) (p s e : Nat) (w : World) (hN : b.length ≤ 65536) (hr : Rd w rb pb b p .nilIface) (hc : PayIs w pb b) (hf : fieldAt b p = some (s, e)) :
    Calls Tryf.prog 20 #[.pointer (some ⟨rb, 0, none⟩)] w fun e' w' => GotField e' w w' rb pb b s e := by
  obtain ⟨n, hu, he, hn⟩ := field_parts hf
  have hle := uvAt_le hr.le hu
  have K := rdUv_some rb pb b p n s w hN hr hc hu
  clear hr hc hf hu
  go_enter Tryf.func20, Tryf.ntmps20
  go_wp2_with fail
  refine K.mono ?_
  rintro e' w1 ⟨rfl, hr1, hg1⟩
  clear K
  obtain ⟨A, hA, c0, c1, f0, f1⟩ := hr1.cells
  have HR : Hid (∀ A', (n < b.length - s → A' = A.add n) → Rd (w1.setCell ⟨rb, 0, none⟩ (.slice (some A') (b.length - s - n) (b.length - s - n))) rb pb b e .nilIface) := fun A' hA' => by
    have e1 : b.length - s - n = b.length - e := by omega
    rw [e1]
    refine hr1.move (by omega) fun hlt => ?_
    rw [hA' (by omega), hA (by omega), Addr.add_lit, he]
  have HG : Hid (w.grownBy w1 (some rb)) := hg1
  have HA : Hid (s < b.length → A = ⟨pb, s, none⟩) := hA
  have en : e - s = n := by omega
  obtain ⟨L, eL⟩ : ∃ L, L = b.length - s := ⟨_, rfl⟩
  rw [← eL] at c0 HR hn
  have hL : L ≤ 65536 := by omega
  clear hr1 hg1 hA eL he hle
  go_wp2_with (first | (refine wpList_head rfl (.tmp 29) (.tmp 30) rfl A L n rfl rfl hn hL ?_) | (refine wpList_rest rfl (.tmp 36) (.tmp 37) rfl A L n rfl (.inr rfl) hn hL ?_; intro A' hA'))
  go_ret
  exact ⟨A, L, by rw [en]; rfl, HA.out, HR.out A' hA', HG.out.trans (turn_set _ _ _ _)⟩

set_option maxHeartbeats 1000000 in
theorem rdField_zero (rb pb : Nat) (b : List UInt8) (w : World) (hN : b.length ≤ 65536)
    (K : Calls Tryf.prog 21 #[.pointer (some ⟨rb, 0, none⟩)] w fun e w' => e = .returned (.int .u64 0) ∧ Failed w w' rb pb b) :
    Calls Tryf.prog 20 #[.pointer (some ⟨rb, 0, none⟩)] w fun e' w' => e' = .returned (.slice none 0 0) ∧ Failed w w' rb pb b := by
  go_enter Tryf.func20, Tryf.ntmps20
  go_wp2_with fail
  refine K.mono ?_
  rintro e' w1 ⟨rfl, hf⟩
  clear K
  have HX : Hid (Failed w w1 rb pb b) := hf
  obtain ⟨⟨p, t, v, hr⟩, hg⟩ := hf
  obtain ⟨A, hA, c0, c1, f0, f1⟩ := hr.cells
  obtain ⟨L, eL⟩ : ∃ L, L = b.length - p := ⟨_, rfl⟩
  rw [← eL] at c0
  have hL : L ≤ 65536 := by omega
  clear hr hg hA eL
  go_wp2
  go_ret
  exact ⟨rfl, HX.out⟩

theorem rdField_bad (rb pb : Nat) (b : List UInt8) (w : World) (hN : b.length ≤ 65536) (hr : RdBad w rb pb b) (hc : PayIs w pb b) :
    Calls Tryf.prog 20 #[.pointer (some ⟨rb, 0, none⟩)] w fun e' w' => e' = .returned (.slice none 0 0) ∧ Failed w w' rb pb b := rdField_zero rb pb b w hN (rdUv_bad rb pb b w hr hc)

set_option maxHeartbeats 1000000 in
theorem rdField_none (F : Interp) (rb pb : Nat) (b : List UInt8) (p : Nat) (w : World) (hF : F.answers w.tape) (hN : b.length ≤ 65536) (hr : Rd w rb pb b p .nilIface) (hc : PayIs w pb b) (hf : fieldAt b p = none) :
    Calls Tryf.prog 20 #[.pointer (some ⟨rb, 0, none⟩)] w fun e' w' => e' = .returned (.slice none 0 0) ∧ Failed w w' rb pb b := by
  rcases field_none_parts hf with hu | ⟨n, q, hu, hlt⟩
  · exact rdField_zero rb pb b w hN (rdUv_none rb pb b p w hr hc hu)
  have hn := uvAt_lt hu
  have K := rdUv_some rb pb b p n q w hN hr hc hu
  clear hr hc hf hu
  go_enter Tryf.func20, Tryf.ntmps20
  go_wp2_with fail
  refine K.mono ?_
  rintro e' w1 ⟨rfl, hr1, hg1⟩
  clear K
  obtain ⟨A, hA, c0, c1, f0, f1⟩ := hr1.cells
  have HR : Hid (Rd w1 rb pb b q .nilIface) := hr1
  have HG : Hid (w.grownBy w1 (some rb)) := hg1
  have HF : Hid (F.answers w1.tape) := by show F.answers _; rw [hg1.tape]; exact hF
  obtain ⟨L, eL⟩ : ∃ L, L = b.length - q := ⟨_, rfl⟩
  rw [← eL] at c0 hlt
  have hL : L ≤ 65536 := by omega
  have KE : ∀ T, Calls Tryf.prog 25 #[.string Tryf.fmtLen, .slice (some ⟨w1.heap.size, 0, none⟩) 1 1] (w1.alloc (.cells #[.iface 47 (.int .u64 n)] T)) fun e w' => GotErr e (w1.alloc (.cells #[.iface 47 (.int .u64 n)] T)) w' :=
    fun T => errorf_len F n w1.heap.size _ HF.out (new_cell w1 #[.iface 47 (.int .u64 n)] T 0)
  clear hr1 hg1 hA eL hF
  go_wp2_with fail
  refine (KE _).mono ?_
  rintro e' w2 ⟨t, v, rfl, hb2⟩
  have HB : Hid (Below w1.heap.size w1 w2) := ((Below.refl _ w1).alloc (Nat.le_refl _) _).trans (hb2.mono (by simp))
  have K2 := fail_set rb t v w2 (laterCell HB.out c1) ((HB.out.frozen (p := ⟨rb, 1, none⟩) HR.out.lt).trans f1)
  have HX : Hid (Failed w (w2.setCell ⟨rb, 1, none⟩ (.iface t v)) rb pb b) := Failed.trans HG.out (HR.out.fails HB.out _ _)
  have c1' : w2.cell? ⟨rb, 1, none⟩ = some .nilIface := laterCell HB.out c1
  clear hb2 c0 c1 HF KE
  go_wp2_with fail
  refine K2.mono ?_
  rintro e' w' ⟨rfl, ew⟩
  subst w'
  clear K2
  go_wp2
  go_ret
  exact ⟨rfl, HX.out⟩

/-! ### kind -/
set_option maxHeartbeats 1000000 in
theorem rdKind_some (rb pb : Nat) (b : List UInt8) (p : Nat) (w : World) (hN : b.length ≤ 65536) (hr : Rd w rb pb b p .nilIface) (hc : PayIs w pb b) (hp : p < b.length) :
    Calls Tryf.prog 22 #[.pointer (some ⟨rb, 0, none⟩)] w fun e w' => e = .returned (.int .u8 (b.getD p 0).toNat) ∧ Rd w' rb pb b (p + 1) .nilIface ∧ w.grownBy w' (some rb) := by
  obtain ⟨A, hA, c0, c1, f0, f1⟩ := hr.cells
  have hx := hc p hp
  rw [hA hp] at c0
  have HR : Hid (∀ A', (1 < b.length - p → A' = (⟨pb, p, none⟩ : Addr).add 1) → Rd (w.setCell ⟨rb, 0, none⟩ (.slice (some A') (b.length - p - 1) (b.length - p - 1))) rb pb b (p + 1) .nilIface) := fun A' hA' => by
    have e : b.length - p - 1 = b.length - (p + 1) := by omega
    rw [e]
    refine hr.move (by omega) fun hlt => ?_
    rw [hA' (by omega), Addr.add_lit]
  obtain ⟨L, eL⟩ : ∃ L, L = b.length - p := ⟨_, rfl⟩
  rw [← eL] at c0 HR
  have hkL : 1 ≤ L := by omega
  have hL : L ≤ 65536 := by omega
  generalize (b.getD p 0).toNat = y at hx ⊢
  clear hr hc hA eL
  go_enter Tryf.func22, Tryf.ntmps22
  go_wp2_with (refine wpList_rest rfl (.tmp 28) (.const (.int .i64 1)) rfl ⟨pb, p, none⟩ L 1 rfl (.inl rfl) hkL hL ?_; intro A' hA')
  go_ret
  exact ⟨rfl, HR.out A' hA', turn_set _ _ _ _⟩

set_option maxHeartbeats 1000000 in
theorem rdKind_none (rb pb : Nat) (b : List UInt8) (p : Nat) (w : World) (hr : Rd w rb pb b p .nilIface) (hp : ¬ p < b.length) :
    Calls Tryf.prog 22 #[.pointer (some ⟨rb, 0, none⟩)] w fun e w' => e = .returned (.int .u8 0) ∧ Failed w w' rb pb b := by
  obtain ⟨A, hA, c0, c1, f0, f1⟩ := hr.cells
  have e0 : b.length - p = 0 := by omega
  rw [e0] at c0
  have HR : Hid (Rd w rb pb b p .nilIface) := hr
  clear hr hA
  go_enter Tryf.func22, Tryf.ntmps22
  go_wp2_with fail
  refine (new_any _ w).mono ?_
  rintro e' w1 ⟨rfl, ew⟩
  have HB : Hid (Below w.heap.size w w1) := by rw [ew]; exact (Below.refl _ w).alloc (Nat.le_refl _) _
  have K2 := fail_set rb 83 (.pointer (some ⟨w.heap.size, 0, none⟩)) w1 (laterCell HB.out c1) ((HB.out.frozen (p := ⟨rb, 1, none⟩) HR.out.lt).trans f1)
  have HX : Hid (Failed w (w1.setCell ⟨rb, 1, none⟩ (.iface 83 (.pointer (some ⟨w.heap.size, 0, none⟩)))) rb pb b) := HR.out.fails HB.out _ _
  have c1' : w1.cell? ⟨rb, 1, none⟩ = some .nilIface := laterCell HB.out c1
  clear ew c0 c1
  go_wp2_with fail
  refine K2.mono ?_
  rintro e' w' ⟨rfl, ew⟩
  subst w'
  clear K2
  go_wp2
  go_ret
  exact ⟨rfl, HX.out⟩
end Go.Proofs.Qxb6616086aFmt

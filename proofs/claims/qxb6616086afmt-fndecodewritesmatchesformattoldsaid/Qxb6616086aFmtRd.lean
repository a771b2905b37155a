import Derived.Test.Qxb6616086aFmtFm
import Derived.Test.Qxb6616086aFmtShelf
import Derived.Maps.OwnSet
import Derived.Maps.AppendAt
/-! THE READER: uvarint, field, kind. -/
namespace Go.Proofs.Qxb6616086aFmt
open Go.RowKit Go.Stop

theorem wpList_rest {ops : Array Oper} {rest : List Oper} {o : Oper} {a : Act} {w : World} {Q : Exit → Act → World → Prop} (hgd : o.guard = none) (x lo : Operand) (hop : o.op = Op.slice 22 x (some lo) none none)
    (A : Addr) (L k : Nat) (hx : a.eval x = .slice (some A) L L) (hlo : a.eval lo = .int .i64 k ∨ a.eval lo = .int .u64 k) (hk : k ≤ L) (_hN : L ≤ 65536)
    (h : ∀ A', (k < L → A' = A.add k) → wpList Tryf.prog ops Q rest (a.put o.dst (.slice (some A') (L - k) (L - k))) w) : wpList Tryf.prog ops Q (o :: rest) a w :=
  wpList_plain hgd fun K hK => by
    unfold Oper.wp
    rcases hlo with hlo | hlo
    · simp only [execOp, hop, hx, hlo, Option.map_some, Option.map_none]
      go_simp
      by_cases q : L = k
      · simp only [if_pos q]
        exact hK _ _ (h A (fun r => by omega))
      · simp only [if_neg q]
        exact hK _ _ (h _ (fun _ => rfl))
    · simp only [execOp, hop, hx, hlo, Option.map_some, Option.map_none]
      go_simp
      by_cases q : L = k
      · simp only [if_pos q]
        exact hK _ _ (h A (fun r => by omega))
      · simp only [if_neg q]
        exact hK _ _ (h _ (fun _ => rfl))

theorem laterCell {w wx : World} {a : Addr} {v : Value} (hb : Below w.heap.size w wx) (h : w.cell? a = some v) : wx.cell? a = some v := (hb.cell (World.block_lt_of_cell? _ _ h)).trans h

structure Rd (w : World) (rb pb : Nat) (b : List UInt8) (p : Nat) (ev : Value) : Prop where
  le : p ≤ b.length
  row : ∃ A, (p < b.length → A = ⟨pb, p, none⟩) ∧ w.rowIs rb 63 2 (fun i => if i = 0 then .slice (some A) (b.length - p) (b.length - p) else ev)
def RdBad (w : World) (rb pb : Nat) (b : List UInt8) : Prop := ∃ p t v, Rd w rb pb b p (.iface t v)

theorem turn_set (w : World) (rb o : Nat) (v : Value) : w.grownBy (w.setCell ⟨rb, o, none⟩ v) (some rb) :=
  ⟨rfl, rfl, rfl, by simp [World.setCell], fun b _ hne => heap_setCell_other _ _ _ _ fun e => hne (congrArg some e)⟩
theorem turn_below {w w' : World} {rb : Nat} (h : Below w.heap.size w w') : w.grownBy w' (some rb) :=
  ⟨h.os, h.tape, h.output, h.size, fun b hb _ => h.block b hb⟩

section
variable {w w' : World} {rb pb : Nat} {b : List UInt8} {p : Nat} {ev : Value}
theorem Rd.of_below (h : Rd w rb pb b p ev) (hb : Below w.heap.size w w') : Rd w' rb pb b p ev := by
  obtain ⟨A, hA, hr⟩ := h.row
  exact ⟨h.le, A, hA, hr.of_block (hb.block rb hr.lt)⟩
theorem Rd.err (h : Rd w rb pb b p ev) (ev' : Value) : Rd (w.setCell ⟨rb, 1, none⟩ ev') rb pb b p ev' := by
  obtain ⟨A, hA, hr⟩ := h.row
  refine ⟨h.le, A, hA, (hr.set 1 ev').congr fun i hi => ?_⟩
  rcases (by omega : i = 0 ∨ i = 1) with rfl | rfl <;> rfl
theorem Rd.cells (h : Rd w rb pb b p ev) : ∃ A, (p < b.length → A = ⟨pb, p, none⟩) ∧ w.cell? ⟨rb, 0, none⟩ = some (.slice (some A) (b.length - p) (b.length - p)) ∧ w.cell? ⟨rb, 1, none⟩ = some ev ∧ w.frozen? ⟨rb, 0, none⟩ = false ∧ w.frozen? ⟨rb, 1, none⟩ = false := by
  obtain ⟨A, hA, hr⟩ := h.row
  exact ⟨A, hA, hr.cell (i := 0) (by decide), hr.cell (i := 1) (by decide), hr.frozen 0, hr.frozen 1⟩
theorem Rd.lt (h : Rd w rb pb b p ev) : rb < w.heap.size := by
  obtain ⟨A, hA, hr⟩ := h.row
  exact hr.lt
theorem Rd.move (h : Rd w rb pb b p ev) {q : Nat} {A : Addr} (hq : q ≤ b.length) (hA : q < b.length → A = ⟨pb, q, none⟩) : Rd (w.setCell ⟨rb, 0, none⟩ (.slice (some A) (b.length - q) (b.length - q))) rb pb b q ev := by
  obtain ⟨A', hA', hr⟩ := h.row
  refine ⟨hq, A, hA, (hr.set 0 _).congr fun i hi => ?_⟩
  rcases (by omega : i = 0 ∨ i = 1) with rfl | rfl <;> rfl

theorem uv29 (A : Addr) (hp : p ≤ b.length) (hc : PayIs w pb b) (hA : p < b.length → A = ⟨pb, p, none⟩) :
    Calls Tryf.prog 29 #[.slice (some A) (b.length - p) (b.length - p)] w fun e w' => e = .returned (.tuple #[.int .u64 (Lib.uvarintDec (b.drop p)).1, .int .i64 (Lib.uvarintDec (b.drop p)).2]) ∧ w' = w := by
  by_cases h : p < b.length
  · rw [hA h]
    refine Tryf.binary_Uvarint pb p (b.length - p) _ (b.drop p) w (by simp) fun j hj => ?_
    rw [List.length_drop] at hj
    rw [hc (p + j) (by omega), List.getElem_drop]
    simp [List.getD_eq_getElem?_getD, show p + j < b.length by omega]
  · have e : p = b.length := by omega
    subst e
    rw [List.drop_length, Nat.sub_self]
    exact Tryf.binary_Uvarint_empty _ _ w
end

/-! ### fail -/
theorem fail_set (rb : Nat) (t : TypeId) (v : Value) (w : World) (hc : w.cell? ⟨rb, 1, none⟩ = some .nilIface) (hf : w.frozen? ⟨rb, 1, none⟩ = false) :
    Calls Tryf.prog 24 #[.pointer (some ⟨rb, 0, none⟩), .iface t v] w fun e w' => e = .returned (.tuple #[]) ∧ w' = w.setCell ⟨rb, 1, none⟩ (.iface t v) := by
  go_enter Tryf.func24, Tryf.ntmps24
  go_wp2
  go_end0
  exact ⟨rfl, rfl⟩
theorem fail_kept (rb : Nat) (ev : Value) (t : TypeId) (v : Value) (w : World) (hc : w.cell? ⟨rb, 1, none⟩ = some (.iface t v)) :
    Calls Tryf.prog 24 #[.pointer (some ⟨rb, 0, none⟩), ev] w fun e w' => e = .returned (.tuple #[]) ∧ w' = w := by
  go_enter Tryf.func24, Tryf.ntmps24
  go_wp2
  go_end0
  exact ⟨rfl, rfl⟩

/-! ### uvarint -/
theorem dec_some {b : List UInt8} {p n q : Nat} (h : uvAt b p = some (n, q)) : ∃ k : Nat, Lib.uvarintDec (b.drop p) = (n, (k : Int)) ∧ 0 < k ∧ q = p + k := by
  unfold uvAt at h
  split at h
  · cases h
  · next hle =>
    simp only [Option.some.injEq, Prod.mk.injEq] at h
    refine ⟨(Lib.uvarintDec (b.drop p)).2.toNat, Prod.ext h.1 ?_, by omega, h.2.symm⟩
    show (Lib.uvarintDec (b.drop p)).2 = _
    omega
theorem dec_none {b : List UInt8} {p : Nat} (h : uvAt b p = none) : (Lib.uvarintDec (b.drop p)).2 ≤ 0 := by
  unfold uvAt at h
  split at h
  · assumption
  · cases h

def RdOut (w w' : World) (rb : Nat) : Prop := w.grownBy w' (some rb)

set_option maxHeartbeats 1000000 in
theorem rdUv_some (rb pb : Nat) (b : List UInt8) (p n q : Nat) (w : World) (hN : b.length ≤ 65536) (hr : Rd w rb pb b p .nilIface) (hc : PayIs w pb b) (hu : uvAt b p = some (n, q)) :
    Calls Tryf.prog 21 #[.pointer (some ⟨rb, 0, none⟩)] w fun e w' => e = .returned (.int .u64 n) ∧ Rd w' rb pb b q .nilIface ∧ w.grownBy w' (some rb) := by
  obtain ⟨A, hA, c0, c1, f0, f1⟩ := hr.cells
  obtain ⟨k, hd, hk, hq⟩ := dec_some hu
  have hle := uvAt_le hr.le hu
  have K := uv29 A hr.le hc hA
  rw [hd] at K
  have HR : Hid (∀ A', (k < b.length - p → A' = A.add k) → Rd (w.setCell ⟨rb, 0, none⟩ (.slice (some A') (b.length - p - k) (b.length - p - k))) rb pb b q .nilIface) := fun A' hA' => by
    have e : b.length - p - k = b.length - q := by omega
    rw [e]
    refine hr.move hle.2 fun hlt => ?_
    rw [hA' (by omega), hA (by omega), Addr.add_lit, hq]
  obtain ⟨L, eL⟩ : ∃ L, L = b.length - p := ⟨_, rfl⟩
  rw [← eL] at c0 K HR
  have hkL : k ≤ L := by omega
  have hL : L ≤ 65536 := by omega
  clear hr hc hu hA hd eL
  go_enter Tryf.func21, Tryf.ntmps21
  go_wp2_with fail
  refine K.mono ?_
  rintro e' w' ⟨rfl, ew⟩
  subst w'
  clear K
  go_wp2_with (refine wpList_rest rfl (.tmp 27) (.tmp 28) rfl A L k rfl (.inl rfl) hkL hL ?_; intro A' hA')
  go_ret
  exact ⟨rfl, HR.out A' hA', turn_set _ _ _ _⟩

/-- What a failed reading leaves. -/
def Failed (w w' : World) (rb pb : Nat) (b : List UInt8) : Prop := RdBad w' rb pb b ∧ w.grownBy w' (some rb)

theorem Rd.fails {w w1 : World} {rb pb : Nat} {b : List UInt8} {p : Nat} {ev : Value} (h : Rd w rb pb b p ev) (hb : Below w.heap.size w w1) (t : TypeId) (v : Value) : Failed w (w1.setCell ⟨rb, 1, none⟩ (.iface t v)) rb pb b :=
  ⟨⟨p, t, v, (h.of_below hb).err _⟩, (turn_below hb).trans (turn_set _ _ _ _)⟩
theorem Rd.failed {w w1 : World} {rb pb : Nat} {b : List UInt8} {p : Nat} {t : TypeId} {v : Value} (h : Rd w rb pb b p (.iface t v)) (hb : Below w.heap.size w w1) : Failed w w1 rb pb b :=
  ⟨⟨p, t, v, h.of_below hb⟩, turn_below hb⟩
theorem Failed.trans {w w1 w2 : World} {rb pb : Nat} {b : List UInt8} (h : w.grownBy w1 (some rb)) (h2 : Failed w1 w2 rb pb b) : Failed w w2 rb pb b := ⟨h2.1, h.trans h2.2⟩

set_option maxHeartbeats 1000000 in
theorem rdUv_none (rb pb : Nat) (b : List UInt8) (p : Nat) (w : World) (hr : Rd w rb pb b p .nilIface) (hc : PayIs w pb b) (hu : uvAt b p = none) :
    Calls Tryf.prog 21 #[.pointer (some ⟨rb, 0, none⟩)] w fun e w' => e = .returned (.int .u64 0) ∧ Failed w w' rb pb b := by
  obtain ⟨A, hA, c0, c1, f0, f1⟩ := hr.cells
  have hd := dec_none hu
  have K := uv29 A hr.le hc hA
  generalize (Lib.uvarintDec (b.drop p)).2 = d at K hd
  generalize (Lib.uvarintDec (b.drop p)).1 = x at K
  obtain ⟨L, eL⟩ : ∃ L, L = b.length - p := ⟨_, rfl⟩
  rw [← eL] at c0 K
  have HR : Hid (Rd w rb pb b p .nilIface) := hr
  clear hr hc hu hA eL
  go_enter Tryf.func21, Tryf.ntmps21
  go_wp2_with fail
  refine K.mono ?_
  rintro e' w' ⟨rfl, ew⟩
  subst w'
  clear K
  go_wp2_with fail
  refine (new_any _ w).mono ?_
  rintro e' w1 ⟨rfl, ew⟩
  have HB : Hid (Below w.heap.size w w1) := by rw [ew]; exact (Below.refl _ w).alloc (Nat.le_refl _) _
  have K2 := fail_set rb 83 (.pointer (some ⟨w.heap.size, 0, none⟩)) w1 (laterCell HB.out c1) ((HB.out.frozen (p := ⟨rb, 1, none⟩) HR.out.lt).trans f1)
  have HX : Hid (Failed w (w1.setCell ⟨rb, 1, none⟩ (.iface 83 (.pointer (some ⟨w.heap.size, 0, none⟩)))) rb pb b) := HR.out.fails HB.out _ _
  have c1' : w1.cell? ⟨rb, 1, none⟩ = some .nilIface := laterCell HB.out c1
  clear ew c0 c1
  go_wp2_with fail
  refine K2.mono ?_
  rintro e' w' ⟨rfl, ew⟩
  subst w'
  clear K2
  go_wp2
  go_ret
  exact ⟨rfl, HX.out⟩

set_option maxHeartbeats 1000000 in
theorem rdUv_bad (rb pb : Nat) (b : List UInt8) (w : World) (hr : RdBad w rb pb b) (hc : PayIs w pb b) :
    Calls Tryf.prog 21 #[.pointer (some ⟨rb, 0, none⟩)] w fun e w' => e = .returned (.int .u64 0) ∧ Failed w w' rb pb b := by
  obtain ⟨p, t, v, hr⟩ := hr
  obtain ⟨A, hA, c0, c1, f0, f1⟩ := hr.cells
  have K := uv29 A hr.le hc hA
  generalize (Lib.uvarintDec (b.drop p)).2 = d at K
  generalize (Lib.uvarintDec (b.drop p)).1 = x at K
  obtain ⟨L, eL⟩ : ∃ L, L = b.length - p := ⟨_, rfl⟩
  rw [← eL] at c0 K
  have HR : Hid (Rd w rb pb b p (.iface t v)) := hr
  clear hr hc hA eL
  by_cases hd : d ≤ 0
  · go_enter Tryf.func21, Tryf.ntmps21
    go_wp2_with fail
    refine K.mono ?_
    rintro e' w' ⟨rfl, ew⟩
    subst w'
    clear K
    go_wp2_with fail
    refine (new_any _ w).mono ?_
    rintro e' w1 ⟨rfl, ew⟩
    have HB : Hid (Below w.heap.size w w1) := by rw [ew]; exact (Below.refl _ w).alloc (Nat.le_refl _) _
    have c1' : w1.cell? ⟨rb, 1, none⟩ = some (.iface t v) := laterCell HB.out c1
    have K2 := fail_kept rb (.iface 83 (.pointer (some ⟨w.heap.size, 0, none⟩))) t v w1 c1'
    have HX : Hid (Failed w w1 rb pb b) := HR.out.failed HB.out
    clear ew c0 c1
    go_wp2_with fail
    refine K2.mono ?_
    rintro e' w' ⟨rfl, ew⟩
    subst w'
    clear K2
    go_wp2
    go_ret
    exact ⟨rfl, HX.out⟩
  · go_enter Tryf.func21, Tryf.ntmps21
    go_wp2_with fail
    refine K.mono ?_
    rintro e' w' ⟨rfl, ew⟩
    subst w'
    clear K
    go_wp2
    go_ret
    exact ⟨rfl, HR.out.failed (Below.refl _ _)⟩
end Go.Proofs.Qxb6616086aFmt

import Derived.Test.Qxb6616086aFmtDs
/-! decodeWrites' CALLS, each as the walk meets it. -/
namespace Go.Proofs.Qxb6616086aFmt
open Go.RowKit Go.Maps Go.Stop Go.Extern.Stop Go.Extern

/-- What stands whatever the reader does. -/
structure Fr (w wr : World) (rb wb pb : Nat) (b : List UInt8) (tv xv : Value) (ts : List MTab) : Prop where
  below : Below w.heap.size w wr
  ws : WsIs wr w.heap.size wb tv xv ts
  rlo : w.heap.size ≤ rb
  blk : ∃ c, wr.heap[rb]? = some (.cells c 63 (0, 0))
  pay : PayIs wr pb b
  plt : pb < w.heap.size
  nN : b.length ≤ 65536
  len : ts.length ≤ b.length
  clen : ∀ i, (tabAt ts i).cs.length ≤ b.length

section
variable {w wr w1 : World} {rb wb pb : Nat} {b : List UInt8} {tv xv : Value} {ts : List MTab} {p : Nat}

theorem Fr.turn (h : Fr w wr rb wb pb b tv xv ts) (hg : wr.grownBy w1 (some rb)) (hb : ∃ c, w1.heap[rb]? = some (.cells c 63 (0, 0))) : Fr w w1 rb wb pb b tv xv ts :=
  ⟨h.below.grown hg h.below.size (fun k hk => by cases hk; exact h.rlo), h.ws.turn h.blk hg, h.rlo, hb, pay_turn h.pay hg (fun e => by have := h.plt; have := h.rlo; omega), h.plt, h.nN, h.len, h.clen⟩
theorem Fr.later (h : Fr w wr rb wb pb b tv xv ts) (hb : Below wr.heap.size wr w1) : Fr w w1 rb wb pb b tv xv ts := by
  obtain ⟨c, hc⟩ := h.blk
  exact ⟨h.below.trans (hb.mono h.below.size), h.ws.of_below hb, h.rlo, ⟨c, (hb.block rb (Array.getElem?_eq_some_iff.1 hc).1).trans hc⟩, fun i hi => laterCell hb (h.pay i hi), h.plt, h.nN, h.len, h.clen⟩
/-- The write set has turned; the reader stands. -/
theorem Fr.wrote {tv' xv' : Value} {ts' : List MTab} (h : Fr w wr rb wb pb b tv xv ts) (hw : WsIs w1 w.heap.size wb tv' xv' ts') (hb : Below w.heap.size wr w1) (hk : Keep63 wr w1) (hl : ts'.length ≤ b.length) (hc : ∀ i, (tabAt ts' i).cs.length ≤ b.length) : Fr w w1 rb wb pb b tv' xv' ts' := by
  obtain ⟨c, hcc⟩ := h.blk
  exact ⟨h.below.trans hb, hw, h.rlo, ⟨c, (hk rb c hcc).trans hcc⟩, fun i hi => (hb.cell (p := ⟨pb, i, none⟩) h.plt).trans (h.pay i hi), h.plt, h.nN, hl, hc⟩
theorem Fr.drew (h : Fr w wr rb wb pb b tv xv ts) : Fr w wr.drew rb wb pb b tv xv ts := h.later (Below.refl _ _).drew
theorem Fr.tape (h : Fr w wr rb wb pb b tv xv ts) {F : Interp} (hF : F.answers w.tape) : F.answers wr.tape := by rw [h.below.tape]; exact hF

def FieldOk (w : World) (rb wb pb : Nat) (b : List UInt8) (tv xv : Value) (ts : List MTab) (s e : Nat) (e' : Ending) (w1 : World) : Prop :=
  ∃ A C, e' = .returned (.slice (some A) (e - s) C) ∧ (convert 22 9 (.slice (some A) (e - s) C)).run Tryf.prog w1 = .ok (.string ⟨(sub b s e).toArray⟩) w1 ∧ (∀ i, i < (sub b s e).length → w1.cell? (A.add i) = some (byteV ((sub b s e).getD i 0))) ∧ Fr w w1 rb wb pb b tv xv ts ∧ Rd w1 rb pb b e .nilIface
def FieldNo (w : World) (rb wb pb : Nat) (b : List UInt8) (tv xv : Value) (ts : List MTab) (e' : Ending) (w1 : World) : Prop := e' = .returned (.slice none 0 0) ∧ Fr w w1 rb wb pb b tv xv ts ∧ RdBad w1 rb pb b

theorem dwField_some {s e : Nat} (h : Fr w wr rb wb pb b tv xv ts) (hr : Rd wr rb pb b p .nilIface) (hf : fieldAt b p = some (s, e)) :
    Calls Tryf.prog 20 #[.pointer (some ⟨rb, 0, none⟩)] wr (FieldOk w rb wb pb b tv xv ts s e) := by
  refine (rdField_some rb pb b p s e wr h.nN hr h.pay hf).mono ?_
  rintro e' w1 ⟨A, C, rfl, hA, hr1, hg⟩
  have h1 := h.turn hg hr1.blk
  have hse := fieldAt_le hr.le hf
  exact ⟨A, C, rfl, conv_str h1.pay hse.2.1 hse.2.2 hA, sub_cells h1.pay hse.2.2 hA, h1, hr1⟩
theorem dwField_none {F : Interp} (hF : F.answers w.tape) (h : Fr w wr rb wb pb b tv xv ts) (hr : Rd wr rb pb b p .nilIface) (hf : fieldAt b p = none) :
    Calls Tryf.prog 20 #[.pointer (some ⟨rb, 0, none⟩)] wr (FieldNo w rb wb pb b tv xv ts) := by
  refine (rdField_none F rb pb b p wr (h.tape hF) h.nN hr h.pay hf).mono ?_
  rintro e' w1 ⟨rfl, hb, hg⟩
  exact ⟨rfl, h.turn hg hb.blk, hb⟩
theorem dwField_bad (h : Fr w wr rb wb pb b tv xv ts) (hr : RdBad wr rb pb b) : Calls Tryf.prog 20 #[.pointer (some ⟨rb, 0, none⟩)] wr (FieldNo w rb wb pb b tv xv ts) := by
  refine (rdField_bad rb pb b wr h.nN hr h.pay).mono ?_
  rintro e' w1 ⟨rfl, hb, hg⟩
  exact ⟨rfl, h.turn hg hb.blk, hb⟩

theorem dwUv_some {n q : Nat} (h : Fr w wr rb wb pb b tv xv ts) (hr : Rd wr rb pb b p .nilIface) (hu : uvAt b p = some (n, q)) :
    Calls Tryf.prog 21 #[.pointer (some ⟨rb, 0, none⟩)] wr fun e w1 => e = .returned (.int .u64 n) ∧ Fr w w1 rb wb pb b tv xv ts ∧ Rd w1 rb pb b q .nilIface := by
  refine (rdUv_some rb pb b p n q wr h.nN hr h.pay hu).mono ?_
  rintro e' w1 ⟨rfl, hr1, hg⟩
  exact ⟨rfl, h.turn hg hr1.blk, hr1⟩
def ZeroBad (w : World) (rb wb pb : Nat) (b : List UInt8) (tv xv : Value) (ts : List MTab) (k : IntKind) (e' : Ending) (w1 : World) : Prop := e' = .returned (.int k 0) ∧ Fr w w1 rb wb pb b tv xv ts ∧ RdBad w1 rb pb b
theorem dwUv_none (h : Fr w wr rb wb pb b tv xv ts) (hr : Rd wr rb pb b p .nilIface) (hu : uvAt b p = none) :
    Calls Tryf.prog 21 #[.pointer (some ⟨rb, 0, none⟩)] wr (ZeroBad w rb wb pb b tv xv ts .u64) := by
  refine (rdUv_none rb pb b p wr hr h.pay hu).mono ?_
  rintro e' w1 ⟨rfl, hb, hg⟩
  exact ⟨rfl, h.turn hg hb.blk, hb⟩
theorem dwUv_bad (h : Fr w wr rb wb pb b tv xv ts) (hr : RdBad wr rb pb b) : Calls Tryf.prog 21 #[.pointer (some ⟨rb, 0, none⟩)] wr (ZeroBad w rb wb pb b tv xv ts .u64) := by
  refine (rdUv_bad rb pb b wr hr h.pay).mono ?_
  rintro e' w1 ⟨rfl, hb, hg⟩
  exact ⟨rfl, h.turn hg hb.blk, hb⟩
theorem dwKind_some (h : Fr w wr rb wb pb b tv xv ts) (hr : Rd wr rb pb b p .nilIface) (hp : p < b.length) :
    Calls Tryf.prog 22 #[.pointer (some ⟨rb, 0, none⟩)] wr fun e w1 => e = .returned (.int .u8 (b.getD p 0).toNat) ∧ Fr w w1 rb wb pb b tv xv ts ∧ Rd w1 rb pb b (p + 1) .nilIface := by
  refine (rdKind_some rb pb b p wr h.nN hr h.pay hp).mono ?_
  rintro e' w1 ⟨rfl, hr1, hg⟩
  exact ⟨rfl, h.turn hg hr1.blk, hr1⟩
theorem dwKind_none (h : Fr w wr rb wb pb b tv xv ts) (hr : Rd wr rb pb b p .nilIface) (hp : ¬ p < b.length) :
    Calls Tryf.prog 22 #[.pointer (some ⟨rb, 0, none⟩)] wr (ZeroBad w rb wb pb b tv xv ts .u8) := by
  refine (rdKind_none rb pb b p wr hr hp).mono ?_
  rintro e' w1 ⟨rfl, hb, hg⟩
  exact ⟨rfl, h.turn hg hb.blk, hb⟩

/-- writes.table(name). -/
def TableGot (w wr : World) (rb wb pb : Nat) (b : List UInt8) (ts : List MTab) (name : List UInt8) (e' : Ending) (w1 : World) : Prop :=
  ∃ g n cap xv' ts', e' = .returned (.pointer (some ⟨g, atT (plain ts) name * 4, none⟩)) ∧ Fr w w1 rb wb pb b (.slice (some ⟨g, 0, none⟩) n cap) xv' ts' ∧ n = ts'.length ∧ plain ts' = addT (plain ts) name ∧ atT (plain ts) name < ts'.length ∧ Keep63 wr w1
theorem dwTable {name : List UInt8} (h : Fr w wr rb wb pb b tv xv ts) (hl : name.length ≤ 65536) (hlen : ts.length < b.length) :
    Calls Tryf.prog 19 #[.pointer (some ⟨wb, 0, none⟩), .string ⟨name.toArray⟩] wr (TableGot w wr rb wb pb b ts name) := by
  refine (table_any w.heap.size wb tv xv ts name wr h.below.size (by have := h.nN; omega) hl h.ws).mono ?_
  rintro e' w1 ⟨g, n, cap, xv', ts', rfl, h1, h2, h3, h4, h5, h6⟩
  refine ⟨g, n, cap, xv', ts', rfl, h.wrote h1 h5 h6 ?_ (fun i => ?_), h2, h3, h4, h6⟩
  · have e1 := addT_length (plain ts) name
    rw [← h3, plain_length, plain_length] at e1
    omega
  · have e1 := addT_cs (plain ts) name i
    rw [← h3, cs_pl, cs_pl] at e1
    have := h.clen i
    omega
end
end Go.Proofs.Qxb6616086aFmt

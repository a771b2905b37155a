import Derived.Test.Qxb6616086aFmtDt
/-! decodeWrites' STATES, and how one leads to the next. -/
namespace Go.Proofs.Qxb6616086aFmt
open Go.RowKit Go.Maps Go.Stop Go.Extern.Stop Go.Extern

structure DSt (w wr : World) (rb wb pb : Nat) (b : List UInt8) (md : Nat) (tv xv : Value) (ts : List MTab) (p t cnt : Nat) : Prop where
  fr : Fr w wr rb wb pb b tv xv ts
  rd : Rd wr rb pb b p .nilIface
  reach : ∃ bad, Reach b ⟨md, plain ts, p, t, cnt, bad⟩
  len : ts.length ≤ p
  clen : ∀ i, (tabAt ts i).cs.length ≤ p
structure DBad (w wr : World) (rb wb pb : Nat) (b : List UInt8) (tv xv : Value) (ts : List MTab) : Prop where
  fr : Fr w wr rb wb pb b tv xv ts
  rd : RdBad wr rb pb b
  ends : Ends b (plain ts) true

/-- How much the loops may still turn. -/
def rdLeft (rb : Nat) (w : World) : Nat :=
  match w.cell? ⟨rb, 1, none⟩, w.cell? ⟨rb, 0, none⟩ with
  | some .nilIface, some (.slice _ n _) => n + 1
  | _, _ => 0

section
variable {w wr w1 : World} {rb wb pb : Nat} {b : List UInt8} {tv xv tv' xv' : Value} {ts ts' : List MTab} {p t cnt : Nat}

theorem Rd.left (h : Rd w rb pb b p .nilIface) : rdLeft rb w = b.length - p + 1 := by
  obtain ⟨A, _, c0, c1, _⟩ := h.cells
  unfold rdLeft
  rw [c0, c1]
theorem RdBad.left (h : RdBad w rb pb b) : rdLeft rb w = 0 := by
  obtain ⟨p, t, v, h⟩ := h
  obtain ⟨A, _, c0, c1, _⟩ := h.cells
  unfold rdLeft
  rw [c0, c1]

theorem DSt.enter {s e n q : Nat} (h : DSt w wr rb wb pb b 0 tv xv ts p t cnt) (hp : p < b.length) (hf : fieldAt b p = some (s, e)) (hu : uvAt b e = some (n, q)) (hfr : Fr w w1 rb wb pb b tv' xv' ts') (hr : Rd w1 rb pb b q .nilIface) (hpl : plain ts' = addT (plain ts) (sub b s e)) :
    DSt w w1 rb wb pb b 1 tv' xv' ts' q (atT (plain ts) (sub b s e)) n := by
  obtain ⟨bad, hre⟩ := h.reach
  have h1 := fieldAt_le (Nat.le_of_lt hp) hf
  have h2 := uvAt_le h1.2.2 hu
  refine ⟨hfr, hr, ⟨bad, by rw [hpl]; exact reach_enter hre hp hf hu⟩, ?_, fun i => ?_⟩
  · have e1 := addT_length (plain ts) (sub b s e)
    rw [← hpl, plain_length, plain_length] at e1
    have := h.len
    omega
  · have e1 := addT_cs (plain ts) (sub b s e) i
    rw [← hpl, cs_pl, cs_pl] at e1
    have := h.clen i
    omega
theorem DSt.noCount {s e : Nat} (h : DSt w wr rb wb pb b 0 tv xv ts p t cnt) (hp : p < b.length) (hf : fieldAt b p = some (s, e)) (hu : uvAt b e = none) (hfr : Fr w w1 rb wb pb b tv' xv' ts') (hr : RdBad w1 rb pb b) (hpl : plain ts' = addT (plain ts) (sub b s e)) : DBad w w1 rb wb pb b tv' xv' ts' := by
  obtain ⟨bad, hre⟩ := h.reach
  exact ⟨hfr, hr, by rw [hpl]; exact reach_noCount hre hp hf hu⟩
theorem DSt.noName (h : DSt w wr rb wb pb b 0 tv xv ts p t cnt) (hp : p < b.length) (hf : fieldAt b p = none) (hfr : Fr w w1 rb wb pb b tv' xv' ts') (hr : RdBad w1 rb pb b) (hpl : plain ts' = addT (plain ts) []) : DBad w w1 rb wb pb b tv' xv' ts' := by
  obtain ⟨bad, hre⟩ := h.reach
  exact ⟨hfr, hr, by rw [hpl]; exact reach_noName hre hp hf⟩
theorem DSt.leave (h : DSt w wr rb wb pb b 1 tv xv ts p t 0) : DSt w wr rb wb pb b 0 tv xv ts p t 0 := by
  obtain ⟨bad, hre⟩ := h.reach
  exact ⟨h.fr, h.rd, ⟨bad, reach_leave hre⟩, h.len, h.clen⟩
theorem DSt.short (h : DSt w wr rb wb pb b 1 tv xv ts p t cnt) (hc : cnt ≠ 0) (hp : b.length ≤ p) (hfr : Fr w w1 rb wb pb b tv xv ts) (hr : RdBad w1 rb pb b) : DBad w w1 rb wb pb b tv xv ts := by
  obtain ⟨bad, hre⟩ := h.reach
  exact ⟨hfr, hr, reach_short hre hc hp⟩
theorem DSt.unknown (h : DSt w wr rb wb pb b 1 tv xv ts p t cnt) (hc : cnt ≠ 0) (hp : p < b.length) (h1 : (b.getD p 0).toNat ≠ 1) (h2 : (b.getD p 0).toNat ≠ 2) (h3 : (b.getD p 0).toNat ≠ 3) (hfr : Fr w w1 rb wb pb b tv xv ts) (hr : RdBad w1 rb pb b) : DBad w w1 rb wb pb b tv xv ts := by
  obtain ⟨bad, hre⟩ := h.reach
  exact ⟨hfr, hr, reach_unknown hre hc hp h1 h2 h3⟩

theorem DSt.dropped {g n cap : Nat} (h : DSt w wr rb wb pb b 1 (.slice (some ⟨g, 0, none⟩) n cap) xv ts p t cnt) (hc : cnt ≠ 0) (hp : p < b.length) (hk : (b.getD p 0).toNat = 3) (ht : t < ts.length)
    (hfr : Fr w w1 rb wb pb b (.slice (some ⟨g, 0, none⟩) n cap) xv ts) (hr : Rd w1 rb pb b (p + 1) .nilIface) :
    DSt w (w1.setCell ⟨g, t * 4 + 1, none⟩ (.bool true)) rb wb pb b 1 (.slice (some ⟨g, 0, none⟩) n cap) xv (ts.set t { tabAt ts t with drop := true }) (p + 1) t (cnt - 1) := by
  obtain ⟨bad, hre⟩ := h.reach
  obtain ⟨h1, h2, h3⟩ := hfr.ws.drop ht
  have hcl : ∀ i, (tabAt (ts.set t { tabAt ts t with drop := true }) i).cs.length ≤ p := fun i => clen_set (m := { tabAt ts t with drop := true }) h.clen ht (h.clen t) i
  refine ⟨hfr.wrote h1 h3 h2 (by rw [List.length_set]; exact hfr.len) (fun i => Nat.le_trans (hcl i) (Nat.le_of_lt hp)), hr.keep h2, ⟨bad, by rw [plain_drop]; exact reach_drop hre hc hp hk⟩, ?_, fun i => Nat.le_succ_of_le (hcl i)⟩
  rw [List.length_set]
  have := h.len
  omega

/-- A change has been appended and stored: the frame. -/
theorem Fr.put {g n cap : Nat} {w0 w2 : World} {c : MChg} {cv' : Value} (hfr : Fr w w1 rb wb pb b (.slice (some ⟨g, 0, none⟩) n cap) xv ts) (ht : t < ts.length) (h0 : Below w1.heap.size w1 w0)
    (hg : Grew w0 w2 58 3 chgZ (chgCell (tabAt ts t).cs) (chgF c) (tabAt ts t).cv cv' (tabAt ts t).cs.length) (hv : ValIs w1 w.heap.size c) (hcl : (tabAt ts t).cs.length < b.length) :
    (w2.cell? ⟨g, t * 4 + 2, none⟩ = some (tabAt ts t).cv ∧ w2.frozen? ⟨g, t * 4 + 2, none⟩ = false) ∧
    Fr w (w2.setCell ⟨g, t * 4 + 2, none⟩ cv') rb wb pb b (.slice (some ⟨g, 0, none⟩) n cap) xv (ts.set t { tabAt ts t with cv := cv', cs := (tabAt ts t).cs ++ [c] }) ∧ Keep63 w1 (w2.setCell ⟨g, t * 4 + 2, none⟩ cv') := by
  have hfr0 := hfr.later h0
  obtain ⟨h1, h2, h3, h4⟩ := hfr0.ws.grow hfr0.below.size ht hg (hv.of_below h0)
  refine ⟨h1, hfr0.wrote h2 h4 h3 (by rw [List.length_set]; exact hfr.len) (fun i => ?_), (Keep63.of_below h0).trans h3⟩
  refine clen_set (m := { tabAt ts t with cv := cv', cs := (tabAt ts t).cs ++ [c] }) hfr.clen ht ?_ i
  show ((tabAt ts t).cs ++ [c]).length ≤ b.length
  rw [List.length_append, List.length_singleton]
  omega

theorem DSt.took {g n cap p' : Nat} {w0 w2 : World} {c : MChg} {cv' : Value} (h : DSt w wr rb wb pb b 1 (.slice (some ⟨g, 0, none⟩) n cap) xv ts p t cnt) (hc : cnt ≠ 0) (ht : t < ts.length)
    (hfr : Fr w w1 rb wb pb b (.slice (some ⟨g, 0, none⟩) n cap) xv ts) (hr : Rd w1 rb pb b p' .nilIface) (h0 : Below w1.heap.size w1 w0)
    (hg : Grew w0 w2 58 3 chgZ (chgCell (tabAt ts t).cs) (chgF c) (tabAt ts t).cv cv' (tabAt ts t).cs.length) (hv : ValIs w1 w.heap.size c) (hk : TakesC b p c.pl p') (hp : p < p') :
    DSt w (w2.setCell ⟨g, t * 4 + 2, none⟩ cv') rb wb pb b 1 (.slice (some ⟨g, 0, none⟩) n cap) xv (ts.set t { tabAt ts t with cv := cv', cs := (tabAt ts t).cs ++ [c] }) p' t (cnt - 1) := by
  obtain ⟨bad, hre⟩ := h.reach
  have hcl := h.clen t
  have hle := hr.le
  obtain ⟨_, h1, h2⟩ := hfr.put ht h0 hg hv (by omega)
  refine ⟨h1, hr.keep h2, ⟨bad, by rw [plain_addC]; exact reach_took hre hc hk⟩, ?_, fun i => ?_⟩
  · rw [List.length_set]; have := h.len; omega
  · refine clen_set (m := { tabAt ts t with cv := cv', cs := (tabAt ts t).cs ++ [c] }) (fun i => by have := h.clen i; omega) ht ?_ i
    show ((tabAt ts t).cs ++ [c]).length ≤ p'
    rw [List.length_append, List.length_singleton]
    omega
theorem DSt.ended {g n cap : Nat} {w0 w2 : World} {c : MChg} {cv' : Value} (h : DSt w wr rb wb pb b 1 (.slice (some ⟨g, 0, none⟩) n cap) xv ts p t cnt) (hc : cnt ≠ 0) (hpN : p < b.length) (ht : t < ts.length)
    (hfr : Fr w w1 rb wb pb b (.slice (some ⟨g, 0, none⟩) n cap) xv ts) (hr : RdBad w1 rb pb b) (h0 : Below w1.heap.size w1 w0)
    (hg : Grew w0 w2 58 3 chgZ (chgCell (tabAt ts t).cs) (chgF c) (tabAt ts t).cv cv' (tabAt ts t).cs.length) (hv : ValIs w1 w.heap.size c) (hk : EndsC b p c.pl) :
    DBad w (w2.setCell ⟨g, t * 4 + 2, none⟩ cv') rb wb pb b (.slice (some ⟨g, 0, none⟩) n cap) xv (ts.set t { tabAt ts t with cv := cv', cs := (tabAt ts t).cs ++ [c] }) := by
  obtain ⟨bad, hre⟩ := h.reach
  have hcl := h.clen t
  obtain ⟨_, h1, h2⟩ := hfr.put ht h0 hg hv (by omega)
  exact ⟨h1, hr.keep h2, by rw [plain_addC]; exact reach_ended hre hc hk⟩

/-! ### The beginning and the end -/
theorem ValIs.mono {B B' : Nat} {c : MChg} (h : ValIs w B c) (hB : B' ≤ B) : ValIs w B' c := by
  unfold ValIs at h ⊢
  split
  · next e => rw [e] at h; exact h
  · next l e =>
    rw [e] at h
    obtain ⟨h0, g, cap, cs, h1, h2, h3, h4⟩ := h
    exact ⟨h0, g, cap, cs, h1, Nat.le_trans hB h2, h3, h4⟩
theorem TabsIs.mono {B B' T s C : Nat} (h : TabsIs w B T s C tv ts) (hB : B' ≤ B) : TabsIs w B' T s C tv ts :=
  ⟨h.row, fun k hk => Nat.le_trans hB (h.lo k hk), h.chg, fun i hi k hk => Nat.le_trans hB (h.clo i hi k hk), fun i hi j hj => (h.val i hi j hj).mono hB, h.apart⟩

def GotWrites (e : Ending) (w w' : World) (b : List UInt8) : Prop :=
  ∃ tv xv ts ev bad, e = .returned (.tuple #[.agg #[tv, xv], ev]) ∧ TabsIs w' w.heap.size 54 4 58 tv ts ∧ Below w.heap.size w w' ∧ Ends b (plain ts) bad ∧ ((ev = .nilIface ∧ bad = false) ∨ ((∃ t v, ev = .iface t v) ∧ bad = true)) ∧ ts.length ≤ 65536 ∧ (∀ i, (tabAt ts i).cs.length ≤ 65536) ∧ xv.oneCell' = true

theorem DSt.start (w : World) (pb : Nat) (b : List UInt8) (hN : b.length ≤ 65536) (hp : BytesAt w pb b) :
    DSt w ((w.alloc (.cells #[.slice none 0 0, .map none] 31)).alloc (.cells #[.slice (some ⟨pb, 0, none⟩) b.length b.length, .nilIface] 63)) (w.heap.size + 1) w.heap.size pb b 0 (.slice none 0 0) (.map none) [] 0 0 0 := by
  obtain ⟨w1, e1⟩ : ∃ w1, w1 = w.alloc (.cells #[.slice none 0 0, .map none] 31) := ⟨_, rfl⟩
  have hs : w.heap.size + 1 = w1.heap.size := by rw [e1]; simp
  have hr1 : w1.rowIs w.heap.size 31 2 (wsF (.slice none 0 0) (.map none)) := by
    rw [e1]
    exact World.rowIs_alloc w #[.slice none 0 0, .map none] 31 _ (fun i hi => by
      have hi' : i < 2 := hi
      rcases (by omega : i = 0 ∨ i = 1) with rfl | rfl <;> rfl)
  have hr2 : (w1.alloc (.cells #[.slice (some ⟨pb, 0, none⟩) b.length b.length, .nilIface] 63)).rowIs w1.heap.size 63 2 (fun i => if i = 0 then .slice (some ⟨pb, 0, none⟩) (b.length - 0) (b.length - 0) else .nilIface) :=
    World.rowIs_alloc w1 #[.slice (some ⟨pb, 0, none⟩) b.length b.length, .nilIface] 63 _ (fun i hi => by
      have hi' : i < 2 := hi
      rcases (by omega : i = 0 ∨ i = 1) with rfl | rfl <;> rfl)
  have hb1 : Below w.heap.size w w1 := by rw [e1]; exact (Below.refl _ w).alloc (Nat.le_refl _) _
  have hb2 : Below w1.heap.size w1 (w1.alloc (.cells #[.slice (some ⟨pb, 0, none⟩) b.length b.length, .nilIface] 63)) := (Below.refl _ _).alloc (Nat.le_refl _) _
  have hb : Below w.heap.size w (w1.alloc (.cells #[.slice (some ⟨pb, 0, none⟩) b.length b.length, .nilIface] 63)) := hb1.trans (hb2.mono hb1.size)
  rw [← e1, hs]
  have hrd : Rd (w1.alloc (.cells #[.slice (some ⟨pb, 0, none⟩) b.length b.length, .nilIface] 63)) w1.heap.size pb b 0 .nilIface := ⟨Nat.zero_le _, ⟨pb, 0, none⟩, fun _ => rfl, hr2⟩
  refine ⟨⟨hb, ⟨hr1.alloc _, Nat.le_refl _, TabsIs.nil _ _ _ _ _, fun i j hi => by simp at hi, fun i => by simp [tabAt, mtab0], .inl ⟨rfl, by simp⟩⟩, by omega, hrd.blk, pay_of hp hb, hp.lt, hN, by simp, fun i => by simp [tabAt, mtab0]⟩, hrd, ⟨false, Reach.start b⟩, by simp, fun i => by simp [tabAt, mtab0]⟩
end
end Go.Proofs.Qxb6616086aFmt

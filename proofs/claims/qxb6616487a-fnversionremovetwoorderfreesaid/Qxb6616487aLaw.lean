import Derived.Test.Qxb6616487aJoin
/-! THE WALK of FnVersionRemoveTwoOrderFree. -/
namespace Go.Proofs.Qxb6616487a
open Go.RowKit

/-- One half of the law: what stands when a list has been built in w and x, then y, removed from it. -/
structure Half (w w' : World) (n : Nat) (B : Pairs) (L bV bW : Nat) (bs done : List Blk) (ds : List Nat) (x y : Int) : Prop where
  st : VSt w' L bV n bs
  dl : done.length = n
  dsl : ds.length = n
  lens : ∀ j, j < n → lenB done j = lenAt B j
  same : ∀ j k, j < n → k < lenAt B j → (ver done j k).ts = tsAt B j k ∧ (ver done j k).rts = rtsAt B j k
  wrs : w'.rowIs bW 73 n (wrCell B ds)
  wrows : ∀ j, j < n → w'.rowIs (ds.getD j 0) 38 (lenAt B j) (ptrCell (blk done j).vs)
  eq : bs.map (·.vs) = strike x y (done.map (·.vs))
  low : Below w.heap.size w w'

theorem Half.of_below {w w' w2 : World} {n : Nat} {B : Pairs} {L bV bW : Nat} {bs done : List Blk} {ds : List Nat} {x y : Int} (h : Half w w' n B L bV bW bs done ds x y) (hb : Below w'.heap.size w' w2) : Half w w2 n B L bV bW bs done ds x y :=
  ⟨h.st.below hb, h.dl, h.dsl, h.lens, h.same, h.wrs.of_block (hb.block _ h.wrs.lt), fun j hj => (h.wrows j hj).of_block (hb.block _ (h.wrows j hj).lt), h.eq, h.low.trans (hb.mono h.low.size)⟩

/-- The half out of what its five calls say. -/
theorem half_of {W w w1 w3 w4 : World} {a : Option Addr} {n : Nat} {A : Nat → Option Addr} {C : Nat → Nat} {B : Pairs} {bV bW : Nat} {done : List Blk} {ds : List Nat} {x y : Int} {b i b' i' : Nat}
    (hi : InB W a n A C B) (hw : Well B n) (hb : BSt w w1 bV bW n B done ds) (hd : done.length = n)
    (l1 : Lies done x b i) (k1 : Kept (own w1.heap.size bV done) (w1.alloc (.cells #[.slice (some ⟨bV, 0, none⟩) n n] 97)) w3)
    (l2 : Lies (rem done b i) y b' i') (v4 : VSt w4 w1.heap.size bV n (rem (rem done b i) b' i')) (k2 : Kept (own w1.heap.size bV (rem done b i)) w3 w4)
    (hown : ∀ g, own w1.heap.size bV (rem done b i) g → own w1.heap.size bV done g) (hst : VSt (w1.alloc (.cells #[.slice (some ⟨bV, 0, none⟩) n n] 97)) w1.heap.size bV n done) :
    Half w w4 n B w1.heap.size bV bW (rem (rem done b i) b' i') done ds x y := by
  have g := hb.good hi.len hd hw
  have e1 := rem_str1 g l1
  have g1 := g.of_str1 e1
  have e2 := rem_str1 g1 l2
  rw [e1, str1_two] at e2
  have k := k1.trans (k2.mono hown)
  have hs : Below w1.heap.size w1 (w1.alloc (.cells #[.slice (some ⟨bV, 0, none⟩) n n] 97)) := (Below.refl _ _).alloc (Nat.le_refl _) _
  have hb2 := hb.of_below hs
  have notown : ∀ {c t m : Nat} {f : Nat → Value}, (w1.alloc (.cells #[.slice (some ⟨bV, 0, none⟩) n n] 97)).rowIs c t m f → t ≠ 97 → t ≠ 91 → t ≠ 93 → ¬ own w1.heap.size bV done c := by
    intro c t m f hr h97 h91 h93 q
    rcases q with q | q | ⟨j, hj, q⟩
    · exact row_ne hr hst.list h97 q
    · exact row_ne hr hst.out h91 q
    · exact row_ne hr (hst.rows j hj).1 h93 q
  have hlow : ∀ q, own w1.heap.size bV done q → w.heap.size ≤ q := by
    intro q hq
    rcases hq with rfl | rfl | ⟨j, hj, rfl⟩
    · exact hb.below.size
    · exact hb.lo.1
    · exact (hb.rows j hj).1
  refine ⟨v4, hd, by rw [← hb.ln, hd], fun j hj => (hb.rows j (by omega)).2.2.2.1, fun j q hj hq => ?_, ?_, fun j hj => ?_, e2, ?_⟩
  · have h3 := hb.rows j (by omega)
    have h4 := h3.2.2.2.2.each q (by have := h3.2.2.2.1; unfold lenB at this; omega)
    exact ⟨h4.1, h4.2.1⟩
  · exact hb2.wrs.of_block (k.block _ hb2.wrs.lt (notown hb2.wrs (by decide) (by decide) (by decide)))
  · have h3 := (hb2.wrows j (by omega)).2
    exact h3.of_block (k.block _ h3.lt (notown h3 (by decide) (by decide) (by decide)))
  · exact (hb.below.trans (hs.mono hb.below.size)).trans (k.below (by have := hb.below.size; simp; omega) hlow)

theorem own_rem {L bV : Nat} {bs : List Blk} {b i g : Nat} (hb : b < bs.length) (h : own L bV (rem bs b i) g) : own L bV bs g := by
  rcases h with h | h | ⟨j, hj, h⟩
  · exact .inl h
  · exact .inr (.inl h)
  · refine .inr (.inr ?_)
    unfold rem at hj h
    by_cases e : lenB bs b = 1
    · rw [if_pos e] at hj h
      rw [List.length_eraseIdx, if_pos hb] at hj
      rw [blk_erase] at h
      by_cases e2 : j < b
      · rw [if_pos e2] at h; exact ⟨j, by omega, h⟩
      · rw [if_neg e2] at h; exact ⟨j + 1, by omega, h⟩
    · rw [if_neg e] at hj h
      rw [List.length_set] at hj
      rw [blk_set bs b _ hb] at h
      by_cases e2 : j = b
      · rw [if_pos e2] at h; exact ⟨b, hb, h⟩
      · rw [if_neg e2] at h; exact ⟨j, hj, h⟩

def RetTrue (W : World) (e : Ending) (w' : World) : Prop := e = .returned (.bool true) ∧ Below W.heap.size W w'

set_option maxRecDepth 20000 in
set_option maxHeartbeats 2000000 in
theorem law {W : World} {a : Option Addr} {n cap : Nat} {A : Nat → Option Addr} {C : Nat → Nat} {B : Pairs} (h : InB W a n A C B) (t1 t2 : Int) :
    Calls Try.prog 7 #[.slice a n cap, .int .i64 t1, .int .i64 t2] W fun e w' => RetTrue W e w' := by
  have H : Hid (InB W a n A C B) := h
  clear h
  go_enter Try.func7, Try.ntmps7
  go_wp2_with fail
  refine (bytes_any H.out t1 t2).mono ?_
  rintro e w' ⟨r, rfl, ew, _⟩
  subst w'
  cases r with
  | false =>
    go_wp2
    go_ret
    exact ⟨rfl, Below.refl _ _⟩
  | true =>
  go_wp2_with fail
  refine (fit_any H.out).mono ?_
  rintro e w' ⟨r, rfl, ew, hf⟩
  subst w'
  cases r with
  | false =>
    go_wp2
    go_ret
    exact ⟨rfl, Below.refl _ _⟩
  | true =>
  have HF : Hid (Fits B n) := hf rfl
  clear hf
  go_wp2_with fail
  refine (well_any H.out HF.out).mono ?_
  rintro e w' ⟨r, rfl, ew, hw⟩
  subst w'
  cases r with
  | false =>
    go_wp2
    go_ret
    exact ⟨rfl, Below.refl _ _⟩
  | true =>
  have HW : Hid (Well B n) := hw rfl
  clear hw
  by_cases heq : (t1 == t2) = true
  · go_wp2
    go_ret
    exact ⟨rfl, Below.refl _ _⟩
  have heq : (t1 == t2) = false := by simpa using heq
  have HNE : Hid (t1 ≠ t2) := by show _ ≠ _; simpa using heq
  go_wp2_with fail
  refine (place_any H.out HF.out t1).mono ?_
  rintro e w' ⟨r1, rfl, ew, hp1⟩
  subst w'
  go_wp2_with fail
  refine (place_any H.out HF.out t2).mono ?_
  rintro e w' ⟨r2, rfl, ew, hp2⟩
  subst w'
  by_cases hr1 : r1 ≤ 0
  · clear hp1 hp2
    go_wp2
    go_ret
    exact ⟨rfl, Below.refl _ _⟩
  by_cases hr2 : r2 ≤ 0
  · clear hp1 hp2
    go_wp2
    go_ret
    exact ⟨rfl, Below.refl _ _⟩
  have P1 : Hid ((flat B)[r1.toNat]? = some t1) := (hp1 (by omega)).2
  have P2 : Hid ((flat B)[r2.toNat]? = some t2) := (hp2 (by omega)).2
  clear hp1 hp2
  have M1 : Hid (t1 ∈ flat B) := List.mem_of_getElem? P1.out
  have M2 : Hid (t2 ∈ flat B) := List.mem_of_getElem? P2.out
  go_wp2_with fail
  -- the first list: t1, then t2
  refine (build_any H.out HF.out (Below.refl _ W)).mono ?_
  rintro e w1 ⟨bV, bW, done, ds, rfl, hd, hb⟩
  have HD : Hid (done.length = n) := hd
  have HB : Hid (BSt W w1 bV bW n B done ds) := hb
  clear hd hb
  go_wp2_with fail
  refine (newList_any bV n w1).mono ?_
  rintro e w2 ⟨rfl, ew⟩
  have EW2 : Hid (w1.alloc (.cells #[.slice (some ⟨bV, 0, none⟩) n n] 97) = w2) := ew
  have V2 : Hid (VSt w2 w1.heap.size bV n done) := by rw [← ew]; exact HB.out.vst H.out HF.out HW.out HD.out
  clear ew
  have GD : Hid (Good done) := HB.out.good H.out.len HD.out HW.out
  obtain ⟨b1, i1, l1⟩ := GD.out.lies (ts := t1) (by rw [HB.out.flat H.out.len HD.out]; exact M1.out)
  have L1 : Hid (Lies done t1 b1 i1) := l1
  clear l1
  go_wp2_with fail
  refine (zzremove_any V2.out L1.out).mono ?_
  rintro e w3 ⟨rfl, hv3, hk3⟩
  have V3 : Hid (VSt w3 w1.heap.size bV n (rem done b1 i1)) := hv3
  have K3 : Hid (Kept (own w1.heap.size bV done) w2 w3) := hk3
  clear hv3 hk3
  have E3 := rem_str1 GD.out L1.out
  have G3 : Hid (Good (rem done b1 i1)) := GD.out.of_str1 E3
  obtain ⟨b2, i2, l2⟩ := G3.out.lies (ts := t2) (by rw [E3]; exact mem_str1 (fun q => HNE.out q.symm) (by rw [HB.out.flat H.out.len HD.out]; exact M2.out))
  have L2 : Hid (Lies (rem done b1 i1) t2 b2 i2) := l2
  clear l2 E3
  go_wp2_with fail
  refine (zzremove_any V3.out L2.out).mono ?_
  rintro e w4 ⟨rfl, hv4, hk4⟩
  have HA : Hid (Half W w4 n B w1.heap.size bV bW (rem (rem done b1 i1) b2 i2) done ds t1 t2) :=
    half_of H.out HW.out HB.out HD.out L1.out (by rw [EW2.out]; exact K3.out) L2.out hv4 hk4 (fun g hg => own_rem L1.out.hb hg) (by rw [EW2.out]; exact V2.out)
  obtain ⟨bsA, eA⟩ : ∃ x, x = rem (rem done b1 i1) b2 i2 := ⟨_, rfl⟩
  rw [← eA] at HA
  obtain ⟨LA, eLA⟩ : ∃ x, x = w1.heap.size := ⟨_, rfl⟩
  rw [← eLA] at HA
  clear eA L2 G3 V3 K3 L1 GD V2 EW2 hv4 hk4 HB HD
  rw [← eLA]
  clear eLA
  go_wp2_with fail
  -- the second list: t2, then t1
  refine (build_any H.out HF.out HA.out.low).mono ?_
  rintro e w5 ⟨bV', bW', done', ds', rfl, hd, hb⟩
  have HD : Hid (done'.length = n) := hd
  have HB : Hid (BSt w4 w5 bV' bW' n B done' ds') := hb
  clear hd hb
  go_wp2_with fail
  refine (newList_any bV' n w5).mono ?_
  rintro e w6 ⟨rfl, ew⟩
  have EW2 : Hid (w5.alloc (.cells #[.slice (some ⟨bV', 0, none⟩) n n] 97) = w6) := ew
  have V2 : Hid (VSt w6 w5.heap.size bV' n done') := by rw [← ew]; exact HB.out.vst H.out HF.out HW.out HD.out
  clear ew
  have GD : Hid (Good done') := HB.out.good H.out.len HD.out HW.out
  obtain ⟨b3, i3, l3⟩ := GD.out.lies (ts := t2) (by rw [HB.out.flat H.out.len HD.out]; exact M2.out)
  have L1 : Hid (Lies done' t2 b3 i3) := l3
  clear l3
  go_wp2_with fail
  refine (zzremove_any V2.out L1.out).mono ?_
  rintro e w7 ⟨rfl, hv3, hk3⟩
  have V3 : Hid (VSt w7 w5.heap.size bV' n (rem done' b3 i3)) := hv3
  have K3 : Hid (Kept (own w5.heap.size bV' done') w6 w7) := hk3
  clear hv3 hk3
  have E3 := rem_str1 GD.out L1.out
  have G3 : Hid (Good (rem done' b3 i3)) := GD.out.of_str1 E3
  obtain ⟨b4, i4, l4⟩ := G3.out.lies (ts := t1) (by rw [E3]; exact mem_str1 HNE.out (by rw [HB.out.flat H.out.len HD.out]; exact M1.out))
  have L2 : Hid (Lies (rem done' b3 i3) t1 b4 i4) := l4
  clear l4 E3
  go_wp2_with fail
  refine (zzremove_any V3.out L2.out).mono ?_
  rintro e w8 ⟨rfl, hv4, hk4⟩
  have HC : Hid (Half w4 w8 n B w5.heap.size bV' bW' (rem (rem done' b3 i3) b4 i4) done' ds' t2 t1) :=
    half_of H.out HW.out HB.out HD.out L1.out (by rw [EW2.out]; exact K3.out) L2.out hv4 hk4 (fun g hg => own_rem L1.out.hb hg) (by rw [EW2.out]; exact V2.out)
  obtain ⟨bsC, eC⟩ : ∃ x, x = rem (rem done' b3 i3) b4 i4 := ⟨_, rfl⟩
  rw [← eC] at HC
  obtain ⟨LC, eLC⟩ : ∃ x, x = w5.heap.size := ⟨_, rfl⟩
  rw [← eLC] at HC
  clear eC L2 G3 V3 K3 L1 GD V2 EW2 hv4 hk4 HB HD
  rw [← eLC]
  clear eLC
  have HA8 : Hid (Half W w8 n B LA bV bW bsA done ds t1 t2) := HA.out.of_below HC.out.low
  have IX : Hid (∀ j k, j < n → k < lenAt B j → (((pre B j k).length : Int) = r1 ↔ tsAt B j k = t1) ∧ (((pre B j k).length : Int) = r2 ↔ tsAt B j k = t2)) := fun j k _ hk => ⟨idx_of HW.out (by omega) P1.out hk, idx_of HW.out (by omega) P2.out hk⟩
  have AG1 : Hid (Ag W w8 a n A C B LA bV n bsA bW done ds r1 r2 t1 t2) :=
    ⟨H.out, HF.out, HA8.out.low, HA8.out.st, HA8.out.dl, HA8.out.dsl, HA8.out.lens, HA8.out.same, HA8.out.wrs, HA8.out.wrows, HA8.out.eq, IX.out⟩
  have AG2 : Hid (Ag W w8 a n A C B LC bV' n bsC bW' done' ds' r1 r2 t1 t2) :=
    ⟨H.out, HF.out, HA8.out.low, HC.out.st, HC.out.dl, HC.out.dsl, HC.out.lens, HC.out.same, HC.out.wrs, HC.out.wrows, by rw [HC.out.eq, strike_comm], IX.out⟩
  have LW : Hid (Below W.heap.size W w8) := HA8.out.low
  clear HA HA8 HC IX P1 P2 M1 M2
  have hLA : w8.cell? ⟨LA, 0, none⟩ = some (.slice (some ⟨bV, 0, none⟩) bsA.length n) := AG1.out.st.list.cell (by omega)
  have HLA : Hid (w8.cell? ⟨LA, 0, none⟩ = some (.slice (some ⟨bV, 0, none⟩) bsA.length n)) := hLA
  clear hLA
  go_wp2_with fail
  refine (blocks_any LA _ w8 HLA.out).mono ?_
  rintro e w' ⟨rfl, ew⟩
  subst w'
  go_wp2_with fail
  refine (agrees_any AG1.out).mono ?_
  rintro e w9 ⟨rfl, hb9⟩
  have AG3 : Hid (Ag W w9 a n A C B LC bV' n bsC bW' done' ds' r1 r2 t1 t2) := AG2.out.of_below hb9
  have HLC : Hid (w9.cell? ⟨LC, 0, none⟩ = some (.slice (some ⟨bV', 0, none⟩) bsC.length n)) := AG3.out.st.list.cell (by omega)
  go_wp2_with fail
  refine (blocks_any LC _ w9 HLC.out).mono ?_
  rintro e w' ⟨rfl, ew⟩
  subst w'
  go_wp2_with fail
  refine (agrees_any AG3.out).mono ?_
  rintro e w10 ⟨rfl, hb10⟩
  go_wp2
  go_ret
  exact ⟨rfl, AG3.out.low.trans (hb10.mono AG3.out.low.size)⟩
end Go.Proofs.Qxb6616487a

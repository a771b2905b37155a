import Derived.Test.Qxb6616487aBSt
namespace Go.Proofs.Qxb6616487a
open Go.RowKit

theorem make1 (t e : TypeId) (z : Value) (bytes : Nat) (ht : Try.prog.underlying t = some (.slice e)) (hinfo : (Try.prog.info? e).map (fun i => (i.zero, i.size, i.bytes)) = some (some z, 1, bytes)) (hz1 : z.cells = #[z]) (n : Nat) (hb : bytes ≤ 24) (hn : n ≤ 65536) (w : World) :
    (Instr.makeSlice t (.int .i64 (n : Int)) (.int .i64 (n : Int))).run Try.prog w = .ok (.slice (some ⟨w.heap.size, 0, none⟩) n n) (w.alloc (.cells (madeCells #[z] n) e)) :=
  run_make_row' t e z bytes ht hinfo hz1 .i64 .i64 n (by have := Nat.mul_le_mul hb hn; omega) (by omega) w

def zero2 (n : Nat) : Array Value := madeCells #[.pointer none, .int .i64 0] (n * 2)
theorem make2 (n : Nat) (hn : n ≤ 65536) (w : World) :
    (Instr.makeSlice 91 (.int .i64 (n : Int)) (.int .i64 (n : Int))).run Try.prog w = .ok (.slice (some ⟨w.heap.size, 0, none⟩) n n) (w.alloc (.cells (zero2 n) 93)) := by
  have hinfo : (Try.prog.info? 93).map (fun i => (i.zero, i.size, i.bytes)) = some (some (.agg #[.pointer none, .int .i64 0]), 2, 16) := by kernel_rfl
  obtain ⟨i, hi, hzz⟩ := Option.map_eq_some_iff.1 hinfo
  simp only [Prod.mk.injEq] at hzz
  obtain ⟨hz, hs, hb⟩ := hzz
  have hr := run_make (P := Try.prog) w 91 93 i _ Try.underlying91 hi hz .i64 .i64 n n (by omega) (Int.le_refl _) (by rw [hb]; omega) (by omega)
  simp only [Int.toNat_natCast, hs] at hr
  exact hr
theorem zero2_row (w : World) (n : Nat) : (w.alloc (.cells (zero2 n) 93)).rowIs w.heap.size 93 (2 * n) (blkCell []) := by
  refine ⟨_, heap_alloc_new w _, by simp [zero2, size_madeCells]; omega, fun i hi => ?_⟩
  have h2 : i < n * 2 := by omega
  simp only [zero2, madeCells, blkCell]
  rcases Nat.mod_two_eq_zero_or_one i with h | h <;> simp [h2, h]

/-- What the inner loop has laid: the versions vs in array c, their writers in array d; nothing older than wr has turned. -/
structure IIn (wr wi : World) (c d : Nat) (B : Pairs) (bi : Nat) (vs : List Ver) : Prop where
  below : Below wr.heap.size wr wi
  row : wi.rowIs c 93 (2 * lenAt B bi) (blkCell vs)
  prow : wi.rowIs d 38 (lenAt B bi) (ptrCell vs)
  made : Made wi B bi vs

theorem IIn.of_below {wr wi w' : World} {c d : Nat} {B : Pairs} {bi : Nat} {vs : List Ver} (h : IIn wr wi c d B bi vs) (hb : Below wi.heap.size wi w') : IIn wr w' c d B bi vs :=
  ⟨h.below.trans (hb.mono h.below.size), h.row.of_block (hb.block _ h.row.lt), h.prow.of_block (hb.block _ h.prow.lt), h.made.of_below hb⟩

theorem blkCell_snoc (vs : List Ver) (v : Ver) (j : Nat) : (if j = vs.length * 2 + 1 then .int .i64 v.rts else if j = vs.length * 2 then .pointer (some ⟨v.p, 0, none⟩) else blkCell vs j) = blkCell (vs ++ [v]) j := by
  unfold blkCell
  by_cases h : j / 2 < vs.length
  · rw [if_neg (by omega), if_neg (by omega), List.getElem?_append_left h]
  · by_cases e : j / 2 = vs.length
    · have e2 : (vs ++ [v])[j / 2]? = some v := by rw [e]; simp
      rw [e2]
      by_cases e3 : j = vs.length * 2 + 1
      · rw [if_pos e3]; simp only []; rw [if_neg (by omega)]
      · rw [if_neg e3, if_pos (by omega)]; simp only []; rw [if_pos (by omega)]
    · rw [if_neg (by omega), if_neg (by omega), List.getElem?_eq_none (by omega), List.getElem?_eq_none (by simp; omega)]
theorem ptrCell_snoc (vs : List Ver) (v : Ver) (j : Nat) : (if j = vs.length then .pointer (some ⟨v.p, 0, none⟩) else ptrCell vs j) = ptrCell (vs ++ [v]) j := by
  unfold ptrCell
  by_cases h : j < vs.length
  · rw [if_neg (by omega), List.getElem?_append_left h]
  · by_cases e : j = vs.length
    · subst e; simp
    · rw [if_neg e, List.getElem?_eq_none (by omega), List.getElem?_eq_none (by simp; omega)]
theorem Made.snoc {w : World} {B : Pairs} {i : Nat} {vs : List Ver} (h : Made w B i vs) {p : Nat} (hp : Txn w p (tsAt B i vs.length)) : Made w B i (vs ++ [⟨p, tsAt B i vs.length, rtsAt B i vs.length⟩]) := by
  refine ⟨fun k hk => ?_⟩
  rw [List.length_append, List.length_singleton] at hk
  by_cases e : k = vs.length
  · subst e
    have e2 : (vs ++ [(⟨p, tsAt B i vs.length, rtsAt B i vs.length⟩ : Ver)]).getD vs.length ⟨0, 0, 0⟩ = ⟨p, tsAt B i vs.length, rtsAt B i vs.length⟩ := by simp
    rw [e2]
    exact ⟨rfl, rfl, hp⟩
  · have e2 : (vs ++ [(⟨p, tsAt B i vs.length, rtsAt B i vs.length⟩ : Ver)]).getD k ⟨0, 0, 0⟩ = vs.getD k ⟨0, 0, 0⟩ := by
      rw [List.getD_eq_getElem?_getD, List.getElem?_append_left (by omega), ← List.getD_eq_getElem?_getD]
    rw [e2]
    exact h.each k (by omega)

section
variable {w0 wc w4 : World} {c d : Nat} {B : Pairs} {bi : Nat} {vs : List Ver}
theorem IIn.prow4 (h : IIn w0 wc c d B bi vs) (k p : Nat) (hb : Below ((wc.setCell ⟨c, k * 2, none⟩ (.pointer (some ⟨p, 0, none⟩))).setCell ⟨c, k * 2 + 1, none⟩ (.int .i64 (rtsAt B bi k))).heap.size ((wc.setCell ⟨c, k * 2, none⟩ (.pointer (some ⟨p, 0, none⟩))).setCell ⟨c, k * 2 + 1, none⟩ (.int .i64 (rtsAt B bi k))) w4) : w4.rowIs d 38 (lenAt B bi) (ptrCell vs) := by
  have hdc : d ≠ c := row_ne h.prow h.row (by decide)
  have h2 := (h.prow.setOther (a := ⟨c, k * 2, none⟩) hdc (.pointer (some ⟨p, 0, none⟩))).setOther (a := ⟨c, k * 2 + 1, none⟩) hdc (.int .i64 (rtsAt B bi k))
  exact h2.of_block (hb.block _ h2.lt)
theorem IIn.push (h : IIn w0 wc c d B bi vs) (k p : Nat) (hb : Below ((wc.setCell ⟨c, k * 2, none⟩ (.pointer (some ⟨p, 0, none⟩))).setCell ⟨c, k * 2 + 1, none⟩ (.int .i64 (rtsAt B bi k))).heap.size ((wc.setCell ⟨c, k * 2, none⟩ (.pointer (some ⟨p, 0, none⟩))).setCell ⟨c, k * 2 + 1, none⟩ (.int .i64 (rtsAt B bi k))) w4)
    (hv : vs.length = k) (_hk : k < lenAt B bi) (htx : Txn wc p (tsAt B bi k)) (hc : w0.heap.size ≤ c) (hd : w0.heap.size ≤ d) :
    IIn w0 (w4.setCell ⟨d, k, none⟩ (.pointer (some ⟨p, 0, none⟩))) c d B bi (vs ++ [⟨p, tsAt B bi k, rtsAt B bi k⟩]) := by
  subst hv
  have hdc : d ≠ c := row_ne h.prow h.row (by decide)
  have hr1 := (h.row.set (vs.length * 2) (.pointer (some ⟨p, 0, none⟩)))
  have hr2 := hr1.set (vs.length * 2 + 1) (.int .i64 (rtsAt B bi vs.length))
  have hm := (h.made.snoc htx).of_set h.row (by decide) (vs.length * 2) (.pointer (some ⟨p, 0, none⟩))
  have hm2 := hm.of_set hr1 (by decide) (vs.length * 2 + 1) (.int .i64 (rtsAt B bi vs.length))
  have hp4 := h.prow4 vs.length p hb
  refine ⟨?_, ?_, ?_, (hm2.of_below hb).of_set hp4 (by decide) _ _⟩
  · refine Below.setCell (((h.below.setCell (by exact hc) _).setCell (by exact hc) _).trans (hb.mono ?_)) (by exact hd) _
    simpa using h.below.size
  · refine ((hr2.of_block (hb.block _ hr2.lt)).setOther (fun q => hdc q.symm) _).congr (fun j _ => ?_)
    rw [← blkCell_snoc]
  · refine (hp4.set vs.length _).congr (fun j _ => ?_)
    rw [← ptrCell_snoc]
end

set_option maxRecDepth 20000 in
set_option maxHeartbeats 2000000 in
theorem build_any {W w : World} {a : Option Addr} {n cap : Nat} {A : Nat → Option Addr} {C : Nat → Nat} {B : Pairs} (h : InB W a n A C B) (hfit : Fits B n) (hbW : Below W.heap.size W w) :
    Calls Try.prog 27 #[.slice a n cap] w fun e w' => ∃ bV bW done ds, e = .returned (.tuple #[.slice (some ⟨bV, 0, none⟩) n n, .slice (some ⟨bW, 0, none⟩) n n]) ∧ done.length = n ∧ BSt w w' bV bW n B done ds := by
  have hn := hfit.1
  have HF : Hid (Fits B n) := hfit
  have H : Hid (InB W a n A C B) := h
  have HB : Hid (Below W.heap.size W w) := hbW
  clear h hfit hbW
  have m54 := make1 54 91 (.slice none 0 0) 24 Try.underlying54 (by kernel_rfl) rfl n (by omega) hn
  have m55 := make1 55 73 (.slice none 0 0) 24 Try.underlying55 (by kernel_rfl) rfl n (by omega) hn
  go_enter Try.func27, Try.ntmps27
  go_wp2
  go_loopw [6, 7, 8, 9, 10] (fun i _v _w _k _q wr => ∃ (bi : Nat) (done : List Blk) (ds : List Nat), bi ≤ n ∧ i = .int .i64 bi ∧ Hid (done.length = bi) ∧ Hid (BSt w wr w.heap.size (w.heap.size + 1) n B done ds)) (fun i _ _ _ _ _ => n - (intOf i).toNat)
  case atStart => exact ⟨0, [], [], Nat.zero_le _, rfl, rfl, ⟨((Below.refl _ w).alloc (Nat.le_refl _) _).alloc (by simp) _, ⟨Nat.le_refl _, by omega⟩, rfl,
      (World.rowIs_made w (.slice none 0 0) n 91).alloc _, by have h2 := World.rowIs_made (w.alloc (.cells (madeCells #[.slice none 0 0] n) 91)) (.slice none 0 0) n 73; simp only [World.size_alloc] at h2; exact h2.congr (fun j _ => rfl),
      fun j hj => by simp at hj, fun j hj => by simp at hj, fun j j' hj => by simp at hj⟩⟩
  case round =>
    obtain ⟨bi, done, ds, hbi, rfl, HD, HS⟩ := hrel
    obtain ⟨w0, ew⟩ : ∃ w0, w0 = wr := ⟨wr, rfl⟩
    subst ew
    have hwr := HS.out.below
    have HBr : Hid (Below W.heap.size W w0) := HB.out.trans (hwr.mono HB.out.size)
    clear hwr m54 m55
    by_cases hlt : bi < n
    · obtain ⟨b, o, rfl, hc, hm⟩ := H.out.row' HBr.out hlt
      have hl := HF.out.2 bi hlt
      clear hm
      obtain ⟨Ab, hAb⟩ : ∃ x, x = A bi := ⟨_, rfl⟩
      rw [← hAb] at hc
      have HAb : Hid (Ab = A bi) := hAb
      clear hAb
      have m91 := make2 (lenAt B bi) hl
      have m73 := make1 73 38 (.pointer none) 8 Try.underlying73 (by kernel_rfl) rfl (lenAt B bi) (by omega) hl
      have hblt : b < w0.heap.size := block_lt_of_cell hc
      have hc2 : ∀ o1 o2, ((w0.alloc o1).alloc o2).cell? ⟨b, o + bi, none⟩ = some (.slice Ab (lenAt B bi) (C bi)) := fun o1 o2 => Lib.cell?_alloc_some _ (Lib.cell?_alloc_some _ hc)
      have hc3 : ∀ o1, (w0.alloc o1).cell? ⟨b, o + bi, none⟩ = some (.slice Ab (lenAt B bi) (C bi)) := fun o1 => Lib.cell?_alloc_some _ hc
      go_wp2
      have I0 : Hid (IIn w0 ((w0.alloc (.cells (zero2 (lenAt B bi)) 93)).alloc (.cells (madeCells #[.pointer none] (lenAt B bi)) 38)) w0.heap.size (w0.heap.size + 1) B bi []) :=
        ⟨((Below.refl _ w0).alloc (Nat.le_refl _) _).alloc (by simp) _, (zero2_row w0 _).alloc _, by
          have h2 := World.rowIs_made (w0.alloc (.cells (zero2 (lenAt B bi)) 93)) (.pointer none) (lenAt B bi) 38
          simp only [World.size_alloc] at h2
          exact h2.congr (fun j _ => rfl), ⟨fun k hk => by simp at hk⟩⟩
      clear m91 m73 hc2 hc3 hc
      go_loopw [9, 10] (fun i _q wi => ∃ (k : Nat) (vs : List Ver), k ≤ lenAt B bi ∧ i = .int .i64 k ∧ Hid (vs.length = k) ∧ Hid (IIn w0 wi w0.heap.size (w0.heap.size + 1) B bi vs)) (fun i _ _ => lenAt B bi - (intOf i).toNat)
      case atStart => exact ⟨0, [], Nat.zero_le _, rfl, rfl, I0⟩
      case round =>
        clear I0
        obtain ⟨wi, ewi⟩ : ∃ wi, wi = wr := ⟨wr, rfl⟩
        subst ewi
        obtain ⟨k, vs, hk, rfl, HV, HI⟩ := hrel
        have hBi : Below W.heap.size W wi := HBr.out.trans (HI.out.below.mono HBr.out.size)
        obtain ⟨b', o', e', hcI, _⟩ := H.out.row' hBi hlt
        simp only [Option.some.injEq, Addr.mk.injEq] at e'
        obtain ⟨rfl, rfl, _⟩ := e'
        rw [← HAb.out] at hcI
        by_cases hlk : k < lenAt B bi
        · obtain ⟨b2, o2, hA, he1, he2⟩ := H.out.elem' hBi hlt hlk
          have eAb := HAb.out.trans hA
          subst eAb
          clear hBi hA HAb
          have hsz : w0.heap.size + 1 < wi.heap.size := HI.out.prow.lt
          go_wp2_with fail
          go_cut [10] (fun q wz => ∃ g p : Nat, q = .pointer (some ⟨g, 0, none⟩) ∧ Hid (IIn w0 wz w0.heap.size (w0.heap.size + 1) B bi vs) ∧ wz.cell? ⟨g, 0, none⟩ = some (.pointer (some ⟨p, 0, none⟩)) ∧ wz.cell? ⟨g, 1, none⟩ = some (.int .i64 (rtsAt B bi k)) ∧ wi.heap.size ≤ g ∧ Hid (Txn wz p (tsAt B bi k)))
          case first =>
            refine wp_region_held (S := fun wz => wz.cell? ⟨b, o + bi, none⟩ = some (.slice (some ⟨b2, o2, none⟩) (lenAt B bi) (C bi)) ∧ wz.cell? ⟨b2, o2 + k * 2, none⟩ = some (.int .i64 (tsAt B bi k)) ∧ wz.cell? ⟨b2, o2 + k * 2 + 1, none⟩ = some (.int .i64 (rtsAt B bi k))) (by kernel_rfl) ?_
            change wpAnyH _ _ _ _ _ _ _ _ (World.drew _)
            refine wpAnyH_take (i := 0) (v := .slice (some ⟨b, o, none⟩) n cap) rfl (by kernel_rfl) (by kernel_rfl) (by kernel_rfl) (fun _ _ _ h => h) (.inl ⟨by rfl, fun wz hS => by obtain ⟨q1, q2, q3⟩ := hS; go_simp⟩) ⟨hcI, he1, he2⟩ ?_
            refine wpAnyH_take (i := 1) (v := .int .i64 bi) rfl (by kernel_rfl) (by kernel_rfl) (by kernel_rfl) (fun _ _ _ h => h) (.inl ⟨by rfl, fun wz hS => by obtain ⟨q1, q2, q3⟩ := hS; go_simp⟩) ⟨hcI, he1, he2⟩ ?_
            refine wpAnyH_take (i := 2) (v := .pointer (some ⟨b, o + bi, none⟩)) rfl (by kernel_rfl) (by kernel_rfl) (by kernel_rfl) (fun _ _ _ h => h) (.inl ⟨by rfl, fun wz hS => by obtain ⟨q1, q2, q3⟩ := hS; go_simp⟩) ⟨hcI, he1, he2⟩ ?_
            refine wpAnyH_take (i := 3) (v := .slice (some ⟨b2, o2, none⟩) (lenAt B bi) (C bi)) rfl (by kernel_rfl) (by kernel_rfl) (by kernel_rfl) (fun _ _ _ h => h) (.inl ⟨by rfl, fun wz hS => by obtain ⟨q1, q2, q3⟩ := hS; go_simp⟩) ⟨hcI, he1, he2⟩ ?_
            refine wpAnyH_take (i := 4) (v := .int .i64 k) rfl (by kernel_rfl) (by kernel_rfl) (by kernel_rfl) (fun _ _ _ h => h) (.inl ⟨by rfl, fun wz hS => by obtain ⟨q1, q2, q3⟩ := hS; go_simp⟩) ⟨hcI, he1, he2⟩ ?_
            refine wpAnyH_take (i := 5) (v := .pointer (some ⟨b2, o2 + k * 2, none⟩)) rfl (by kernel_rfl) (by kernel_rfl) (by kernel_rfl) (fun _ _ _ h => h) (.inl ⟨by rfl, fun wz hS => by obtain ⟨q1, q2, q3⟩ := hS; go_simp⟩) ⟨hcI, he1, he2⟩ ?_
            refine wpAnyH_take (i := 6) (v := .pointer (some ⟨b2, o2 + k * 2, none⟩)) rfl (by kernel_rfl) (by kernel_rfl) (by kernel_rfl) (fun _ _ _ h => h) (.inl ⟨by rfl, fun wz hS => by obtain ⟨q1, q2, q3⟩ := hS; go_simp⟩) ⟨hcI, he1, he2⟩ ?_
            refine wpAnyH_take (i := 7) (v := .int .i64 (tsAt B bi k)) rfl (by kernel_rfl) (by kernel_rfl) (by kernel_rfl) (fun _ _ _ h => h) (.inl ⟨by rfl, fun wz hS => by obtain ⟨q1, q2, q3⟩ := hS; go_simp⟩) ⟨hcI, he1, he2⟩ ?_
            refine wpAnyH_take (i := 8) (v := .slice (some ⟨b, o, none⟩) n cap) rfl (by kernel_rfl) (by kernel_rfl) (by kernel_rfl) (fun _ _ _ h => h) (.inl ⟨by rfl, fun wz hS => by obtain ⟨q1, q2, q3⟩ := hS; go_simp⟩) ⟨hcI, he1, he2⟩ ?_
            refine wpAnyH_take (i := 9) (v := .int .i64 bi) rfl (by kernel_rfl) (by kernel_rfl) (by kernel_rfl) (fun _ _ _ h => h) (.inl ⟨by rfl, fun wz hS => by obtain ⟨q1, q2, q3⟩ := hS; go_simp⟩) ⟨hcI, he1, he2⟩ ?_
            refine wpAnyH_take (i := 10) (v := .pointer (some ⟨b, o + bi, none⟩)) rfl (by kernel_rfl) (by kernel_rfl) (by kernel_rfl) (fun _ _ _ h => h) (.inl ⟨by rfl, fun wz hS => by obtain ⟨q1, q2, q3⟩ := hS; go_simp⟩) ⟨hcI, he1, he2⟩ ?_
            refine wpAnyH_take (i := 11) (v := .slice (some ⟨b2, o2, none⟩) (lenAt B bi) (C bi)) rfl (by kernel_rfl) (by kernel_rfl) (by kernel_rfl) (fun _ _ _ h => h) (.inl ⟨by rfl, fun wz hS => by obtain ⟨q1, q2, q3⟩ := hS; go_simp⟩) ⟨hcI, he1, he2⟩ ?_
            refine wpAnyH_take (i := 12) (v := .int .i64 k) rfl (by kernel_rfl) (by kernel_rfl) (by kernel_rfl) (fun _ _ _ h => h) (.inl ⟨by rfl, fun wz hS => by obtain ⟨q1, q2, q3⟩ := hS; go_simp⟩) ⟨hcI, he1, he2⟩ ?_
            refine wpAnyH_take (i := 13) (v := .pointer (some ⟨b2, o2 + k * 2, none⟩)) rfl (by kernel_rfl) (by kernel_rfl) (by kernel_rfl) (fun _ _ _ h => h) (.inl ⟨by rfl, fun wz hS => by obtain ⟨q1, q2, q3⟩ := hS; go_simp⟩) ⟨hcI, he1, he2⟩ ?_
            refine wpAnyH_take (i := 14) (v := .pointer (some ⟨b2, o2 + k * 2 + 1, none⟩)) rfl (by kernel_rfl) (by kernel_rfl) (by kernel_rfl) (fun _ _ _ h => h) (.inl ⟨by rfl, fun wz hS => by obtain ⟨q1, q2, q3⟩ := hS; go_simp⟩) ⟨hcI, he1, he2⟩ ?_
            refine wpAnyH_take (i := 15) (v := .int .i64 (rtsAt B bi k)) rfl (by kernel_rfl) (by kernel_rfl) (by kernel_rfl) (fun _ _ _ h => h) (.inl ⟨by rfl, fun wz hS => by obtain ⟨q1, q2, q3⟩ := hS; go_simp⟩) ⟨hcI, he1, he2⟩ ?_
            refine wpAnyH_all (rs := [16, 17]) (by kernel_rfl) (by simp) ?_
            intro z hz
            have hz2 : z = 16 ∨ z = 17 := by simpa using hz
            clear hz
            rcases hz2 with rfl | rfl
            · refine wpOp_step rfl (fun K hK => ?_)
              go_simp
              refine (newVersion_any _ _ _).mono ?_
              rintro e w1 ⟨p, rfl, hp, htx, hb1⟩
              refine hK _ _ ⟨⟨cell_below hb1 hcI, cell_below hb1 he1, cell_below hb1 he2⟩, ?_⟩
              clear hK K
              refine wpAnyH_all (rs := [17]) (by kernel_rfl) (by simp) ?_
              intro z hz
              obtain rfl : z = 17 := by simpa using hz
              clear hz
              refine wpOp_step rfl (fun K hK => ?_)
              go_simp
              refine hK _ _ ⟨⟨Lib.cell?_alloc_some _ (cell_below hb1 hcI), Lib.cell?_alloc_some _ (cell_below hb1 he1), Lib.cell?_alloc_some _ (cell_below hb1 he2)⟩, ?_⟩
              clear hK K
              refine wpAnyH_all (rs := [18]) (by kernel_rfl) (by simp) ?_
              intro z hz
              obtain rfl : z = 18 := by simpa using hz
              clear hz
              refine wpOp_step rfl (fun K hK => ?_)
              go_simp
              refine hK _ _ ⟨⟨Lib.cell?_alloc_some _ (cell_below hb1 hcI), Lib.cell?_alloc_some _ (cell_below hb1 he1), Lib.cell?_alloc_some _ (cell_below hb1 he2)⟩, ?_⟩
              clear hK K
              refine wpAnyH_done (by kernel_rfl) ?_ _
              go_wp2
              go_meet
              case rel =>
                have hbb : Below wi.heap.size wi w1 := (Below.refl _ wi).drew.trans hb1
                refine ⟨w1.heap.size, p, rfl, HI.out.of_below (hbb.alloc hbb.size _), by simp, by simp, hbb.size, htx.of_block ?_⟩
                exact Below.heap_alloc _ _ _ htx.lt
            · refine wpOp_step rfl (fun K hK => ?_)
              go_simp
              refine hK _ _ ⟨⟨Lib.cell?_alloc_some _ hcI, Lib.cell?_alloc_some _ he1, Lib.cell?_alloc_some _ he2⟩, ?_⟩
              clear hK K
              refine wpAnyH_all (rs := [16]) (by kernel_rfl) (by simp) ?_
              intro z hz
              obtain rfl : z = 16 := by simpa using hz
              clear hz
              refine wpOp_step rfl (fun K hK => ?_)
              go_simp
              refine (newVersion_any _ _ _).mono ?_
              rintro e w1 ⟨p, rfl, hp, htx, hb1⟩
              have hcI1 := cell_below hb1 (Lib.cell?_alloc_some _ hcI)
              have he11 := cell_below hb1 (Lib.cell?_alloc_some _ he1)
              have he21 := cell_below hb1 (Lib.cell?_alloc_some _ he2)
              refine hK _ _ ⟨⟨hcI1, he11, he21⟩, ?_⟩
              clear hK K
              refine wpAnyH_all (rs := [18]) (by kernel_rfl) (by simp) ?_
              intro z hz
              obtain rfl : z = 18 := by simpa using hz
              clear hz
              refine wpOp_step rfl (fun K hK => ?_)
              have hbb : Below wi.heap.size wi w1 := ((Below.refl _ wi).alloc (Nat.le_refl _) _).drew.trans (hb1.mono (by simp))
              have hg : w1.rowIs wi.heap.size 93 2 (blkCell []) := by
                refine World.rowIs.of_block (w := (wi.alloc (.cells #[.pointer none, .int .i64 0] 93)).drew) ?_ (hb1.block _ (by simp))
                refine ⟨_, heap_alloc_new wi _, rfl, fun j hj => ?_⟩
                rcases (show j = 0 ∨ j = 1 by omega) with rfl | rfl <;> rfl
              have hg0 := hg.cell (i := 0) (by omega)
              have hg1 := hg.cell (i := 1) (by omega)
              have hf0 : w1.frozen? ⟨wi.heap.size, 0, none⟩ = false := hg.frozen 0
              have hf1 : w1.frozen? ⟨wi.heap.size, 1, none⟩ = false := hg.frozen 1
              have HG : Hid (w1.rowIs wi.heap.size 93 2 (blkCell [])) := hg
              clear hg
              go_simp
              have hnb : b ≠ wi.heap.size := by have := block_lt_of_cell hcI; simp at this; omega
              have hnb2 : b2 ≠ wi.heap.size := by have := block_lt_of_cell he1; simp at this; omega
              refine hK _ _ ⟨⟨?_, ?_, ?_⟩, ?_⟩
              · rw [World.cell?_of_block (heap_setCell_other _ _ _ _ (by exact hnb)), World.cell?_of_block (heap_setCell_other _ _ _ _ (by exact hnb))]; exact hcI1
              · rw [World.cell?_of_block (heap_setCell_other _ _ _ _ (by exact hnb2)), World.cell?_of_block (heap_setCell_other _ _ _ _ (by exact hnb2))]; exact he11
              · rw [World.cell?_of_block (heap_setCell_other _ _ _ _ (by exact hnb2)), World.cell?_of_block (heap_setCell_other _ _ _ _ (by exact hnb2))]; exact he21
              clear hK K
              refine wpAnyH_done (by kernel_rfl) ?_ _
              go_wp2
              go_meet
              case rel =>
                have hr2 := (HG.out.set 0 (.pointer (some ⟨p, 0, none⟩))).set 1 (.int .i64 (rtsAt B bi k))
                have hnp : p ≠ wi.heap.size := by simp at hp; omega
                refine ⟨wi.heap.size, p, rfl, HI.out.of_below ((hbb.setCell (by exact Nat.le_refl _) _).setCell (by exact Nat.le_refl _) _), ?_, ?_, Nat.le_refl _, htx.of_block ?_⟩
                · rw [hr2.cell (by omega)]; rfl
                · rw [hr2.cell (by omega)]; rfl
                · rw [heap_setCell_other _ _ _ _ (by exact hnp), heap_setCell_other _ _ _ _ (by exact hnp)]
          case rest =>
            obtain ⟨g, p, rfl, HIc, hq0, hq1, hgi, HTx⟩ := hcut
            have hgc : g ≠ w0.heap.size := by omega
            have hgd : g ≠ w0.heap.size + 1 := by omega
            have HGC : Hid (g ≠ w0.heap.size + 1) := hgd
            have hx0 := HIc.out.row.cell (i := k * 2) (by omega)
            have hx1 := HIc.out.row.cell (i := k * 2 + 1) (by omega)
            have hy0 : wc.frozen? ⟨w0.heap.size, k * 2, none⟩ = false := HIc.out.row.frozen _
            have hy1 : wc.frozen? ⟨w0.heap.size, k * 2 + 1, none⟩ = false := HIc.out.row.frozen _
            clear hcI he1 he2 hgd
            go_wp2_with fail
            refine (writer_any _ _ _ ⟨_, rfl⟩).mono ?_
            rintro e w4 ⟨rfl, hb4⟩
            have hkl : k < lenAt B bi := hlk
            have PU := HIc.out.push (c := w0.heap.size) (d := w0.heap.size + 1) k p hb4 HV.out hkl HTx.out (Nat.le_refl _) (by omega)
            have PR4 := HIc.out.prow4 k p hb4
            have hz0 := PR4.cell (i := k) hkl
            have hz1 : w4.frozen? ⟨w0.heap.size + 1, k, none⟩ = false := PR4.frozen k
            have HPU : Hid (IIn _ _ _ _ _ _ _) := PU
            clear PU PR4 hq0 hq1 hx0 hx1 hy0 hy1 hgc
            go_wp2
            go_roundw
            case rel => exact ⟨k + 1, _, by omega, by go_num, by show _ = _; rw [List.length_append, HV.out]; rfl, HPU⟩
            case measure => simp [intOf]; omega
        · have hke : k = lenAt B bi := by omega
          clear hBi
          have hwI := HI.out.below
          have HS2 := HS.out.of_below hwI
          have hD : done.length = bi := HD.out
          have PU := HS.out.push hwI w0.heap.size (w0.heap.size + 1) vs (Nat.le_refl _) (by omega) (by rw [hD, HV.out, hke]) (by rw [hD]; exact HI.out.row) (by rw [hD]; exact HI.out.prow) (by rw [hD]; exact HI.out.made)
          rw [hD] at PU
          have HPU : Hid (BSt _ _ _ _ _ _ _ _) := PU
          have hv0 := HS2.out.cell (i := bi) hlt
          have hv1 : wi.frozen? ⟨w.heap.size, bi, none⟩ = false := HS2.out.frozen bi
          have hnw : w.heap.size ≠ w.heap.size + 1 := by omega
          have hw0' := HS2.wrs.cell (i := bi) hlt
          have hw1' : wi.frozen? ⟨w.heap.size + 1, bi, none⟩ = false := HS2.wrs.frozen bi
          clear PU HS2 hwI hke hD
          go_wp2
          go_roundw
          case rel => exact ⟨bi + 1, _, _, by omega, by go_num, by show _ = _; rw [List.length_append, HD.out]; rfl, HPU⟩
          case measure => simp [intOf]; omega
    · go_wp2
      go_ret2
      exact ⟨_, _, done, ds, rfl, by have := HD.out; omega, HS.out⟩
end Go.Proofs.Qxb6616487a

import Derived.Test.Qxb6616487aSort
import Derived.Test.Qxb6616487aBuild
import Derived.Test.Qxb6616487aRem
import Derived.Test.Qxb6616487aAgrees
/-! WHAT THE CALLS HAND ON TO ONE ANOTHER. -/
namespace Go.Proofs.Qxb6616487a
open Go.RowKit

theorem Kept.below {S : Nat → Prop} {w w' : World} (h : Kept S w w') {N : Nat} (hN : N ≤ w.heap.size) (hS : ∀ g, S g → N ≤ g) : Below N w w' :=
  ⟨h.os, h.tape, h.output, h.size, fun k hk => h.block k (by omega) (fun q => by have := hS k q; omega)⟩

section
variable {W w w1 : World} {a : Option Addr} {n : Nat} {A : Nat → Option Addr} {C : Nat → Nat} {B : Pairs} {bV bW : Nat} {done : List Blk} {ds : List Nat}

theorem txn_ne {w : World} {p b t m : Nat} {ts : Int} {f : Nat → Value} (h : Txn w p ts) (hr : w.rowIs b t m f) (ht : t ≠ 83) : p ≠ b := by
  rintro rfl
  obtain ⟨cs, h1, _⟩ := h
  obtain ⟨c, h2, _⟩ := hr
  rw [h2] at h1
  simp only [Option.some.injEq, Obj.cells.injEq] at h1
  exact ht h1.2.1

theorem BSt.vst (h : BSt w w1 bV bW n B done ds) (hi : InB W a n A C B) (hf : Fits B n) (hw : Well B n) (hd : done.length = n) :
    VSt (w1.alloc (.cells #[.slice (some ⟨bV, 0, none⟩) n n] 97)) w1.heap.size bV n done := by
  have hV := h.out.lt
  have hs : Below w1.heap.size w1 (w1.alloc (.cells #[.slice (some ⟨bV, 0, none⟩) n n] 97)) := (Below.refl _ _).alloc (Nat.le_refl _) _
  have h2 := h.of_below hs
  have hmd : ∀ j k, j < done.length → k < lenB done j → (ver done j k).ts = tsAt B j k ∧ (ver done j k).rts = rtsAt B j k ∧ Txn w1 (ver done j k).p (tsAt B j k) := fun j k hj hk => (h.rows j hj).2.2.2.2.each k hk
  refine ⟨⟨_, heap_alloc_new w1 _, rfl, fun i hi' => ?_⟩, h2.out, ⟨by omega, hf.1⟩, fun j hj => ?_, fun j k hj hk => ?_, ⟨by omega, fun j hj => ?_⟩, h.dist⟩
  · have : i = 0 := by omega
    subst this
    rw [hd]; rfl
  · have h3 := h2.rows j hj
    have h4 := hw.2.1 j (by omega)
    have h5 := hf.2 j (by omega)
    exact ⟨h3.2.1, by omega, by omega, by omega⟩
  · obtain ⟨m1, m2, m3⟩ := hmd j k hj hk
    have hlt := m3.lt
    have hb := hi.elem j k (by omega) (by have := (h.rows j hj).2.2.2.1; omega)
    obtain ⟨_, _, _, _, _, hb⟩ := hb
    refine ⟨by rw [m1]; exact cell_below hs m3.cell, ?_, by omega, by omega⟩
    rintro (q | q | ⟨j', hj', q⟩)
    · omega
    · exact txn_ne m3 h.out (by decide) q
    · exact txn_ne m3 (h.rows j' hj').2.1 (by decide) q
  · have h3 := (h.rows j hj).2.1
    have := h3.lt
    exact ⟨by omega, row_ne h3 h.out (by decide)⟩

theorem BSt.flat (h : BSt w w1 bV bW n B done ds) (hB : B.length = n) (hd : done.length = n) : ((done.map (·.vs)).flatten).map (·.ts) = flat B := by
  have e : (done.map (·.vs)).map (fun x => x.map (·.ts)) = B.map (fun x => x.map (·.1)) := by
    apply List.ext_getElem (by simp; omega)
    intro j h1 h2
    have hj : j < done.length := by simpa using h1
    have hjB : j < B.length := by omega
    have eb : done[j] = blk done j := by simp [blk, hj]
    rw [List.getElem_map, List.getElem_map, List.getElem_map, eb]
    have h3 := h.rows j hj
    have hbj : bAt B j = B[j] := bAt_eq B j hjB
    rw [← hbj]
    apply List.ext_getElem (by have := h3.2.2.2.1; unfold lenB lenAt at this; simp; exact this)
    intro k h4 h5
    have hk : k < (blk done j).vs.length := by simpa using h4
    have hk2 : k < (bAt B j).length := by simpa using h5
    rw [List.getElem_map, List.getElem_map, ver_at hk]
    have h6 := (h3.2.2.2.2.each k hk).1
    unfold ver
    rw [h6]
    simp [tsAt, hk2]
  unfold Qxb6616487a.flat
  rw [List.map_flatten, List.map_flatten, e]

theorem BSt.good (h : BSt w w1 bV bW n B done ds) (hB : B.length = n) (hd : done.length = n) (hw : Well B n) : Good done := by
  refine ⟨fun j hj => ?_, ?_⟩
  · rw [(h.rows j hj).2.2.2.1]
    exact hw.2.1 j (by omega)
  · have h2 := hw.2.2
    rw [← h.flat hB hd, List.pairwise_map] at h2
    exact h2
end

theorem up_inj {l : List Int} (h : l.Pairwise (· < ·)) {i j : Nat} {x : Int} (hi : l[i]? = some x) (hj : l[j]? = some x) : i = j := by
  obtain ⟨hi1, hi2⟩ := List.getElem?_eq_some_iff.1 hi
  obtain ⟨hj1, hj2⟩ := List.getElem?_eq_some_iff.1 hj
  rcases Nat.lt_trichotomy i j with e | e | e
  · have := List.pairwise_iff_getElem.1 h i j hi1 hj1 e
    omega
  · exact e
  · have := List.pairwise_iff_getElem.1 h j i hj1 hi1 e
    omega

theorem idx_of {B : Pairs} {n : Nat} (hw : Well B n) {r ts : Int} (hr : 0 < r) (hp : (flat B)[r.toNat]? = some ts) {j k : Nat} (hk : k < lenAt B j) : ((pre B j k).length : Int) = r ↔ tsAt B j k = ts := by
  have h1 := flat_at B j k hk
  constructor
  · intro e
    have e2 : (pre B j k).length = r.toNat := by omega
    rw [e2, hp] at h1
    simpa using h1.symm
  · intro e
    rw [e] at h1
    have := up_inj hw.2.2 h1 hp
    omega

theorem mem_str1 {l : List (List Ver)} {t t' : Int} (hne : t ≠ t') (hm : t ∈ l.flatten.map (·.ts)) : t ∈ (str1 t' l).flatten.map (·.ts) := by
  obtain ⟨v, hv, rfl⟩ := List.mem_map.1 hm
  rw [str1_flat]
  exact List.mem_map.2 ⟨v, List.mem_filter.2 ⟨hv, by unfold not1; simpa using hne⟩, rfl⟩

set_option maxHeartbeats 400000 in
theorem zzremove_any {w : World} {L bV capV : Nat} {bs : List Blk} {ts : Int} {b i : Nat} (h : VSt w L bV capV bs) (hl : Lies bs ts b i) :
    Calls Try.prog 29 #[.pointer (some ⟨L, 0, none⟩), .int .i64 ts] w fun e w' => e = .returned (.tuple #[]) ∧ VSt w' L bV capV (rem bs b i) ∧ Kept (own L bV bs) w w' := by
  have H : Hid (VSt w L bV capV bs) := h
  have HL : Hid (Lies bs ts b i) := hl
  clear h hl
  go_enter Try.func29, Try.ntmps29
  go_wp2_with (go_at_call 41; refine (remove_any H.out HL.out).mono ?_; rintro e w' ⟨rfl, hv, hk⟩)
  go_end0
  exact ⟨rfl, hv, hk⟩

set_option maxHeartbeats 400000 in
theorem newList_any (bV n : Nat) (w : World) :
    Calls Try.prog 28 #[.slice (some ⟨bV, 0, none⟩) n n] w fun e w' => e = .returned (.pointer (some ⟨w.heap.size, 0, none⟩)) ∧ w.alloc (.cells #[.slice (some ⟨bV, 0, none⟩) n n] 97) = w' := by
  go_enter Try.func28, Try.ntmps28
  go_wp2
  go_ret
  exact ⟨rfl, rfl⟩

set_option maxHeartbeats 400000 in
theorem blocks_any (L : Nat) (v : Value) (w : World) (h : w.cell? ⟨L, 0, none⟩ = some v) :
    Calls Try.prog 31 #[.pointer (some ⟨L, 0, none⟩)] w fun e w' => e = .returned v ∧ w' = w := by
  go_enter Try.func31, Try.ntmps31
  go_wp2
  go_ret
  exact ⟨rfl, rfl⟩
end Go.Proofs.Qxb6616487a

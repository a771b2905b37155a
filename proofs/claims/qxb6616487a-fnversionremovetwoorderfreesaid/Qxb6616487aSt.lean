import Derived.Test.Qxb6616487aFind
/-! THE STATE of a version list in memory; find over it. -/
namespace Go.Proofs.Qxb6616487a
open Go.RowKit

def blk (bs : List Blk) (j : Nat) : Blk := bs.getD j ⟨0, 0, []⟩
def ver (bs : List Blk) (j k : Nat) : Ver := (blk bs j).vs.getD k ⟨0, 0, 0⟩
def lenB (bs : List Blk) (j : Nat) : Nat := (blk bs j).vs.length

/-- The blocks of memory that a version list writes: its own, the outer array, the inner arrays. -/
def own (L bV : Nat) (bs : List Blk) (g : Nat) : Prop := g = L ∨ g = bV ∨ ∃ j, j < bs.length ∧ g = (blk bs j).c

structure VSt (w : World) (L bV capV : Nat) (bs : List Blk) : Prop where
  list : w.rowIs L 97 1 (fun _ => .slice (some ⟨bV, 0, none⟩) bs.length capV)
  out : w.rowIs bV 91 capV (outCell bs)
  cap : bs.length ≤ capV ∧ capV ≤ 65536
  rows : ∀ j, j < bs.length → w.rowIs (blk bs j).c 93 (2 * (blk bs j).cap) (blkCell (blk bs j).vs) ∧ 0 < lenB bs j ∧ lenB bs j ≤ (blk bs j).cap ∧ (blk bs j).cap ≤ 65536
  txn : ∀ j k, j < bs.length → k < lenB bs j → w.cell? ⟨(ver bs j k).p, 1, none⟩ = some (.int .i64 (ver bs j k).ts) ∧ ¬ own L bV bs (ver bs j k).p ∧ -9223372036854775808 ≤ (ver bs j k).ts ∧ (ver bs j k).ts ≤ 9223372036854775807
  far : L ≠ bV ∧ ∀ j, j < bs.length → (blk bs j).c ≠ L ∧ (blk bs j).c ≠ bV
  dist : ∀ j j', j < bs.length → j' < bs.length → (blk bs j).c = (blk bs j').c → j = j'

theorem outCell_at {bs : List Blk} {j : Nat} (h : j < bs.length) : outCell bs j = .slice (some ⟨(blk bs j).c, 0, none⟩) (lenB bs j) (blk bs j).cap := by
  simp [outCell, blk, lenB, h]
theorem blkCell_even {vs : List Ver} {k : Nat} (h : k < vs.length) : blkCell vs (k * 2) = .pointer (some ⟨(vs.getD k ⟨0, 0, 0⟩).p, 0, none⟩) := by
  simp [blkCell, h]
theorem blkCell_odd {vs : List Ver} {k : Nat} (h : k < vs.length) : blkCell vs (k * 2 + 1) = .int .i64 (vs.getD k ⟨0, 0, 0⟩).rts := by
  have e : (k * 2 + 1) / 2 = k := by omega
  have e2 : (k * 2 + 1) % 2 = 1 := by omega
  simp [blkCell, h, e, e2]

section
variable {w : World} {L bV capV : Nat} {bs : List Blk}

theorem VSt.outc (h : VSt w L bV capV bs) {j : Nat} (hj : j < bs.length) : w.cell? ⟨bV, j, none⟩ = some (.slice (some ⟨(blk bs j).c, 0, none⟩) (lenB bs j) (blk bs j).cap) := by
  rw [h.out.cell (by have := h.cap; omega), outCell_at hj]
theorem VSt.len (h : VSt w L bV capV bs) {j : Nat} (hj : j < bs.length) : 0 < lenB bs j ∧ lenB bs j ≤ (blk bs j).cap ∧ (blk bs j).cap ≤ 65536 := (h.rows j hj).2
theorem VSt.even (h : VSt w L bV capV bs) {j k : Nat} (hj : j < bs.length) (hk : k < lenB bs j) : w.cell? ⟨(blk bs j).c, k * 2, none⟩ = some (.pointer (some ⟨(ver bs j k).p, 0, none⟩)) := by
  have h1 := h.rows j hj
  unfold lenB at hk h1
  rw [h1.1.cell (by omega), blkCell_even hk]; rfl
theorem VSt.odd (h : VSt w L bV capV bs) {j k : Nat} (hj : j < bs.length) (hk : k < lenB bs j) : w.cell? ⟨(blk bs j).c, k * 2 + 1, none⟩ = some (.int .i64 (ver bs j k).rts) := by
  have h1 := h.rows j hj
  unfold lenB at hk h1
  rw [h1.1.cell (by omega), blkCell_odd hk]; rfl
theorem VSt.ts (h : VSt w L bV capV bs) {j k : Nat} (hj : j < bs.length) (hk : k < lenB bs j) : w.cell? ⟨(ver bs j k).p, 1, none⟩ = some (.int .i64 (ver bs j k).ts) :=
  (h.txn j k hj hk).1
theorem VSt.heads (h : VSt w L bV capV bs) : Heads w bV bs.length (fun j => (ver bs j 0).ts) := fun j hj => by
  have h1 := h.even hj (h.len hj).1
  rw [Nat.zero_mul] at h1
  exact ⟨_, _, _, _, h.outc hj, (h.len hj).1, h1, h.ts hj (h.len hj).1⟩
theorem VSt.vers (h : VSt w L bV capV bs) {j : Nat} (hj : j < bs.length) : Vers w (blk bs j).c (lenB bs j) (fun k => (ver bs j k).ts) := fun _ hk =>
  ⟨_, _, h.even hj hk, h.odd hj hk, h.ts hj hk⟩
/-- What a call leaves alone that makes memory and writes none that was there. -/
theorem VSt.below {w' : World} (h : VSt w L bV capV bs) (hb : Below w.heap.size w w') : VSt w' L bV capV bs where
  list := h.list.of_block (hb.block _ h.list.lt)
  out := h.out.of_block (hb.block _ h.out.lt)
  cap := h.cap
  rows := fun j hj => ⟨(h.rows j hj).1.of_block (hb.block _ (h.rows j hj).1.lt), (h.rows j hj).2⟩
  txn := fun j k hj hk => ⟨cell_below hb (h.txn j k hj hk).1, (h.txn j k hj hk).2⟩
  far := h.far
  dist := h.dist
end

/-- Where ts lies, as the searches ask it. -/
structure Lies (bs : List Blk) (ts : Int) (b i : Nat) : Prop where
  hb : b < bs.length
  hi : i < lenB bs b
  is : (ver bs b i).ts = ts
  k1 : ∀ j, j < bs.length → ((ver bs j 0).ts ≤ ts ↔ j ≤ b)
  k2 : ∀ k, k < lenB bs b → ((ver bs b k).ts ≤ ts ↔ k ≤ i)
  k3 : (ver bs (bs.length - 1) (lenB bs (bs.length - 1) - 1)).ts ≤ ts → b = bs.length - 1 ∧ i = lenB bs (bs.length - 1) - 1

theorem ret_two {k : IntKind} {a b c d : Int} (h1 : a = c) (h2 : b = d) : Ending.returned (.tuple #[.int k a, .int k b]) = .returned (.tuple #[.int k c, .int k d]) := by rw [h1, h2]

set_option maxHeartbeats 1000000 in
theorem find_any {w : World} {L bV capV : Nat} {bs : List Blk} {ts : Int} {b i : Nat} (h : VSt w L bV capV bs) (hl : Lies bs ts b i) :
    Calls Try.prog 44 #[.pointer (some ⟨L, 0, none⟩), .int .i64 ts] w fun e w' => e = .returned (.tuple #[.int .i64 b, .int .i64 i]) ∧ Below w.heap.size w w' := by
  have H : Hid (VSt w L bV capV bs) := h
  have HL : Hid (Lies bs ts b i) := hl
  have hL : w.cell? ⟨L, 0, none⟩ = some (.slice (some ⟨bV, 0, none⟩) bs.length capV) := h.list.cell (by omega)
  have hn := h.cap
  have hb := hl.hb
  obtain ⟨n, en⟩ : ∃ n, n = bs.length := ⟨_, rfl⟩
  have hlast : n - 1 < bs.length := by omega
  obtain ⟨m, em⟩ : ∃ m, m = lenB bs (n - 1) := ⟨_, rfl⟩
  have hm := h.len hlast
  have hc1 := h.outc hlast
  have hc2 := h.even hlast (k := m - 1) (by omega)
  have hc3 := h.ts hlast (k := m - 1) (by omega)
  rw [← em] at hm hc1
  rw [← en] at hL hn hb
  have hb2 := (h.txn _ (m - 1) hlast (by omega)).2.2
  have EN : Hid (n = bs.length) := en
  have EM : Hid (m = lenB bs (n - 1)) := em
  clear h hl en em hlast
  by_cases hle : (ver bs (n - 1) (m - 1)).ts ≤ ts
  · have hk3 := HL.out.k3 (by rw [← EN.out, ← EM.out]; exact hle)
    rw [← EN.out, ← EM.out] at hk3
    have e1 : b = n - 1 := hk3.1
    have e2 : i = m - 1 := hk3.2
    subst e1 e2
    go_enter Try.func44, Try.ntmps44
    go_wp2
    go_ret2
    exact ⟨ret_two (by omega) (by omega), Below.refl _ _⟩
  · have K1 : Hid (∀ j, j < n → ((ver bs j 0).ts ≤ ts ↔ j ≤ b)) := fun j hj => HL.out.k1 j (by rw [← EN.out]; exact hj)
    have K2 : Hid (∀ k, k < lenB bs b → ((ver bs b k).ts ≤ ts ↔ k ≤ i)) := HL.out.k2
    have HH : Hid (Heads w bV n (fun j => (ver bs j 0).ts)) := by show Heads _ _ _ _; rw [EN.out]; exact H.out.heads
    have hbB : b < bs.length := by rw [← EN.out]; exact hb
    have hlb := H.out.len hbB
    have hi := HL.out.hi
    have hts0 : -9223372036854775808 ≤ ts := by
      have := (H.out.txn _ _ hbB HL.out.hi).2.2
      rw [HL.out.is] at this
      omega
    have HB : Hid (b < bs.length) := hbB
    clear hbB
    go_enter Try.func44, Try.ntmps44
    go_wp2_with fail
    refine (last1_any bV n capV b ts (fun j => (ver bs j 0).ts) _ (by omega) hb hts0 (by omega) HH.out K1.out).mono ?_
    rintro e w1 ⟨rfl, hb1⟩
    have H1 : Hid (VSt w1 L bV capV bs) := H.out.below hb1
    have hL1 : w1.cell? ⟨L, 0, none⟩ = some (.slice (some ⟨bV, 0, none⟩) n capV) := cell_below hb1 hL
    have ho1 := H1.out.outc HB.out
    have HV : Hid (Vers w1 (blk bs b).c (lenB bs b) (fun k => (ver bs b k).ts)) := H1.out.vers HB.out
    clear hc1 hc2 hc3 hL
    go_wp2_with fail
    refine (last2_any (blk bs b).c (lenB bs b) (blk bs b).cap i ts (fun k => (ver bs b k).ts) _ (by omega) hi hts0 (by omega) HV.out K2.out).mono ?_
    rintro e w2 ⟨rfl, hb2⟩
    go_wp2
    go_ret2
    exact ⟨rfl, hb1.trans (hb2.mono hb1.size)⟩
end Go.Proofs.Qxb6616487a

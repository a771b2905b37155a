import Derived.Test.Qxb6616487aSt
/-! The small functions on versions: made, read. -/
namespace Go.Proofs.Qxb6616487a
open Go.RowKit

/-- A writer: a block of type 83 that holds ts in its second cell. -/
def Txn (w : World) (p : Nat) (ts : Int) : Prop := ∃ cs : Array Value, w.heap[p]? = some (.cells cs 83 (0, 0)) ∧ cs[1]? = some (.int .i64 ts)
theorem Txn.cell {w : World} {p : Nat} {ts : Int} (h : Txn w p ts) : w.cell? ⟨p, 1, none⟩ = some (.int .i64 ts) := by
  obtain ⟨cs, h1, h2⟩ := h
  rw [cell_of_row _ _ _ _ _ _ h1, h2]
theorem Txn.lt {w : World} {p : Nat} {ts : Int} (h : Txn w p ts) : p < w.heap.size := block_lt_of_cell h.cell
theorem Txn.of_block {w w' : World} {p : Nat} {ts : Int} (h : Txn w p ts) (e : w'.heap[p]? = w.heap[p]?) : Txn w' p ts := by
  obtain ⟨cs, h1, h2⟩ := h
  exact ⟨cs, by rw [e]; exact h1, h2⟩
/-- What a new version is. -/
def NewVer (e : Ending) (w w' : World) (ts rts : Int) : Prop :=
  ∃ p, e = .returned (.agg #[.pointer (some ⟨p, 0, none⟩), .int .i64 rts]) ∧ w.heap.size ≤ p ∧ Txn w' p ts ∧ Below w.heap.size w w'

set_option maxHeartbeats 400000 in
theorem newVersion_any (ts rts : Int) (w : World) : Calls Try.prog 39 #[.int .i64 ts, .int .i64 rts] w fun e w' => NewVer e w w' ts rts := by
  go_enter Try.func39, Try.ntmps39
  go_wp2
  exact bodyPost_ret (v := .agg #[.pointer (some ⟨w.heap.size + 1, 0, none⟩), .int .i64 rts]) (by simp [results, Try.results39, go_sem]) rfl
    ⟨w.heap.size + 1, rfl, by omega, ⟨_, heap_alloc2_new w _ _, rfl⟩, ((Below.refl _ w).alloc (Nat.le_refl _) _).alloc (by simp) _⟩

set_option maxHeartbeats 400000 in
theorem writer_any (p : Value) (rts : Int) (w : World) (hp : ∃ a, p = .pointer a) :
    Calls Try.prog 40 #[.agg #[p, .int .i64 rts]] w fun e w' => e = .returned p ∧ Below w.heap.size w w' := by
  obtain ⟨a, rfl⟩ := hp
  go_enter Try.func40, Try.ntmps40
  go_wp2
  go_ret
  exact ⟨rfl, (Below.refl _ _).alloc (Nat.le_refl _) _⟩

set_option maxHeartbeats 400000 in
theorem verTs_any (p : Nat) (ts rts : Int) (w : World) (hp : w.cell? ⟨p, 1, none⟩ = some (.int .i64 ts)) :
    Calls Try.prog 42 #[.agg #[.pointer (some ⟨p, 0, none⟩), .int .i64 rts]] w fun e w' => e = .returned (.int .i64 ts) ∧ Below w.heap.size w w' := by
  have hlt := block_lt_of_cell hp
  simp only at hlt
  have hp2 : ∀ o, (w.alloc o).cell? ⟨p, 1, none⟩ = some (.int .i64 ts) := fun o => Lib.cell?_alloc_some o hp
  go_enter Try.func42, Try.ntmps42
  go_wp2
  go_ret
  exact ⟨rfl, (Below.refl _ _).alloc (Nat.le_refl _) _⟩

set_option maxHeartbeats 400000 in
theorem verRts_any (p : Value) (rts : Int) (w : World) (hp : ∃ a, p = .pointer a) :
    Calls Try.prog 43 #[.agg #[p, .int .i64 rts]] w fun e w' => e = .returned (.int .i64 rts) ∧ Below w.heap.size w w' := by
  obtain ⟨a, rfl⟩ := hp
  go_enter Try.func43, Try.ntmps43
  go_wp2
  go_ret
  exact ⟨rfl, (Below.refl _ _).alloc (Nat.le_refl _) _⟩
end Go.Proofs.Qxb6616487a

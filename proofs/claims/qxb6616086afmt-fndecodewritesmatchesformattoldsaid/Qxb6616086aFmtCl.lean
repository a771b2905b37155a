import Derived.Test.Qxb6616086aFmtFl
import Derived.Lib.LazyBuf
import Derived.ArgAppend
import Derived.Shelf.Slices.Clone
/-! THE WALKS of zzClone, zzBytes and zzSameBytes. -/
namespace Go.Proofs.Qxb6616086aFmt
open Go.RowKit

def byteV (c : UInt8) : Value := .int .u8 (c.toNat : Int)
/-- A block of bytes. -/
def BytesAt (w : World) (g : Nat) (l : List UInt8) : Prop := w.rowIs g 5 l.length (fun i => byteV (l.getD i 0))

theorem make_bytes (n : Nat) (hn : n ≤ 1000000) (w : World) :
    (Instr.makeSlice 22 (.int .i64 (n : Int)) (.int .i64 (n : Int))).run Tryf.prog w = .ok (.slice (some ⟨w.heap.size, 0, none⟩) n n) (w.alloc (.cells (madeCells #[.int .u8 0] n) 5)) := by
  have hinfo : (Tryf.prog.info? 5).map (fun i => (i.zero, i.size, i.bytes)) = some (some (.int .u8 0), 1, 1) := by kernel_rfl
  obtain ⟨i, hi, hzz⟩ := Option.map_eq_some_iff.1 hinfo
  simp only [Prod.mk.injEq] at hzz
  obtain ⟨hz, hs, hb⟩ := hzz
  have hr := run_make (P := Tryf.prog) w 22 5 i _ Tryf.underlying22 hi hz .i64 .i64 n n (by omega) (by omega) (by rw [hb]; omega) (by omega)
  simp only [Int.toNat_natCast, hs, Nat.mul_one] at hr
  exact hr

theorem nil22 : ∀ (w : World) (a : Option Addr) (n c n' c' : Nat), (binOp .eql 22 (.slice a n c) (.slice none n' c')).run Tryf.prog w = .ok (.bool a.isNone) w := fun w a n c n' c' => Lib.run_eql_slice_nil w _ _ a n c n' c' Tryf.underlying22

set_option maxHeartbeats 1000000 in
theorem zzClone_nil (w : World) : Calls Tryf.prog 6 #[.slice none 0 0] w fun e w' => e = .returned (.slice none 0 0) ∧ w' = w := by
  have q22 := nil22
  go_enter Tryf.func6, Tryf.ntmps6
  go_wp2
  go_ret
  exact ⟨rfl, rfl⟩

def Cloned (e : Ending) (w w' : World) (l : List UInt8) : Prop := ∃ g, e = .returned (.slice (some ⟨g, 0, none⟩) l.length l.length) ∧ w.heap.size ≤ g ∧ BytesAt w' g l ∧ Below w.heap.size w w'

set_option maxHeartbeats 1000000 in
theorem zzClone_any (a : Addr) (c : Nat) (l : List UInt8) (w : World) (hn : l.length ≤ 1000000) (hc : ∀ i, i < l.length → w.cell? (a.add i) = some (byteV (l.getD i 0))) :
    Calls Tryf.prog 6 #[.slice (some a) l.length c] w fun e w' => Cloned e w w' l := by
  have q22 := nil22
  have mk := make_bytes l.length hn
  have HC : Hid (∀ i, i < l.length → w.cell? (a.add i) = some (byteV (l.getD i 0))) := hc
  have B0 : Hid ((w.alloc (.cells (madeCells #[.int .u8 0] l.length) 5)).rowIs w.heap.size 5 l.length (fun _ => .int .u8 0)) := World.rowIs_made w _ _ _
  clear hc
  go_enter Tryf.func6, Tryf.ntmps6
  go_wp2
  clear mk q22
  go_loopw [4] (fun i wr => ∃ k : Nat, k ≤ l.length ∧ i = .int .i64 k ∧ Hid (wr.rowIs w.heap.size 5 l.length (fun j => if j < k then byteV (l.getD j 0) else .int .u8 0)) ∧ Hid (Below w.heap.size w wr)) (fun i _ => l.length - (intOf i).toNat)
  case atStart => exact ⟨0, Nat.zero_le _, rfl, B0.out.congr (fun i _ => by rw [if_neg (by omega)]), (Below.refl _ w).alloc (Nat.le_refl _) _⟩
  case round =>
    obtain ⟨k, hk, rfl, HR, HB⟩ := hrel
    by_cases hlt : k < l.length
    · have hx : wr.cell? (a.add k) = some (.int .u8 ((l.getD k 0).toNat : Int)) := by
        have h := HC.out k hlt
        have hb := World.block_lt_of_cell? w _ h
        rw [HB.out.cell hb]
        exact h
      have hy : wr.cell? ⟨w.heap.size, k, none⟩ = some (.int .u8 0) := by
        have h := HR.out.cell hlt
        simpa using h
      have hf : wr.frozen? ⟨w.heap.size, k, none⟩ = false := HR.out.frozen k
      have HR' : Hid ((wr.setCell ⟨w.heap.size, k, none⟩ (.int .u8 ((l.getD k 0).toNat : Int))).rowIs w.heap.size 5 l.length (fun j => if j < k + 1 then byteV (l.getD j 0) else .int .u8 0)) :=
        (HR.out.set k _).congr (fun j _ => by
          by_cases e : j = k
          · subst e; simp [byteV]
          · by_cases q : j < k
            · simp [e, q, show j < k + 1 by omega]
            · simp [e, q, show ¬ j < k + 1 by omega])
      have HB' : Hid (Below w.heap.size w (wr.setCell ⟨w.heap.size, k, none⟩ (.int .u8 ((l.getD k 0).toNat : Int)))) := HB.out.setCell (Nat.le_refl _) _
      clear HC HR HB B0
      generalize l.getD k 0 = x at hx HR' HB'
      go_wp2
      go_roundw
      case rel => exact ⟨k + 1, by omega, by go_num, HR', HB'⟩
      case measure => simp [intOf]; omega
    · go_wp2
      go_ret
      exact ⟨w.heap.size, rfl, Nat.le_refl _, HR.out.congr (fun j hj => by rw [if_pos (by omega)]), HB.out⟩
end Go.Proofs.Qxb6616086aFmt

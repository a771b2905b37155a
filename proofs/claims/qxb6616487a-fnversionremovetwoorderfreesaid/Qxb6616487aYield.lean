import Derived.Test.Qxb6616487aSmall
import Derived.Deep.RegionHeld
import Derived.Lib.Builder
/-! Small laws for the regions that draw their order. -/
namespace Go.Proofs.Qxb6616487a
open Go.RowKit

theorem yields_load1 {ops : Array Oper} {S : World → Prop} {op : Oper} {a : Act} (hw : Region.wanted op (yielded ops a.tmps) = true) (ty : TypeId) (x : Operand) (ho : op.op = .load ty x)
    (ad : Addr) (hx : a.eval x = .pointer (some ad)) (v : Value) (hS : ∀ w, S w → w.cell? ad = some v) (hagg : ∀ w, (isAgg ty).run Try.prog w = .ok false w) : YieldsIf Try.prog ops S op v a :=
  .inl ⟨hw, fun w hs => by
    unfold execOp
    simp [ho, hx, Instr.loadAt, Instr.sureAddr, Sem.run_bind, loadVar, hagg, run_load, hS w hs]⟩

/-- 'wpAnyH_take', the slot that is written given by its number. -/
theorem takeD {P : Program} {ops : Array Oper} {Q : Exit → Act → World → Prop} {md : Region.Mode} {S : World → Prop} {i : Nat} {oi : Oper} {v : Value} {fuel : Nat} {listed : Array Bool} {a : Act} {w : World} (d : Nat) (hi : ops[i]? = some oi) (hd : oi.dst = some d)
    (hs : Region.noSelect ops = true) (hf : Region.free md ops listed i = true) (hr : (Region.ready md ops listed).contains i = true)
    (hQ : ∀ c a w, Q (.panic c) (a.put oi.dst v) w → Q (.panic c) a w) (hy : YieldsIf P ops S oi v a) (hS : S w)
    (h : wpAnyH P md ops Q S fuel (listed.setIfInBounds i true) (a.put (some d) v) w) : wpAnyH P md ops Q S (fuel + 1) listed a w :=
  wpAnyH_take hi hs hf hr hQ hy hS (by rw [hd]; exact h)

theorem range2 {w : World} {q : Nat} {x y : Value} (h0 : w.cell? ⟨q, 0, none⟩ = some x) (h1 : w.cell? ⟨q, 1, none⟩ = some y) : w.rangeAt q 0 [x, y] := by
  intro j v hv
  match j, hv with
  | 0, hv => rw [Nat.zero_add]; simp at hv; rw [← hv]; exact h0
  | 1, hv => rw [Nat.zero_add]; simp at hv; rw [← hv]; exact h1
  | j + 2, hv => simp at hv

theorem info93 : (Try.prog.info? 93).map (·.size) = some 2 := by kernel_rfl

theorem neq38 (a : Addr) (w : World) : (binOp .neq 38 (.pointer (some a)) (.pointer (some a))).run Try.prog w = .ok (.bool false) w := by
  have h : ∃ j, Try.prog.info? 83 = some j := by
    have h1 : (Try.prog.info? 83).isSome = true := by kernel_rfl
    exact Option.isSome_iff_exists.1 h1
  obtain ⟨j, hj⟩ := h
  exact Lib.run_neq_ptr_same w a Try.underlying38 hj
end Go.Proofs.Qxb6616487a

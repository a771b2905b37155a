import Derived.Test.Qxb6616454aW1
import Derived.ProofKit
import Derived.OpenShut
import Derived.ShutString
import Derived.ChangeOld
import Derived.Below
/-! AN ARRAY OF BYTES THAT CAME IN BY VALUE, OPENED. -/
namespace Go.Proofs.Qxb6616454a
open Go.ChangeShapes Go.WideShapes Go.ChangeAt Go.RowKit

theorem open_bytes {H : Type} {enc : TypeId × Value → H} {W : World} {base : Nat} {n : Nat} {T : TypeId} {v : Value} {d : DataW H} {p : List MemPlace}
    (ht : Try.prog.underlying T = some (.array n 5)) (hC : Try.prog.cellsOf T = n) (hv : Value.okWide Try.prog W .any base T v)
    (h : DataW.Trod enc Try.prog W 0 (fun _ => true) true T v d p) :
    ∃ xs : List Int, v = .agg (cu8 xs) ∧ xs.length = n ∧ ∀ i, i < n → 0 ≤ xs.getD i 0 ∧ xs.getD i 0 < 256 := by
  have hc1 : Try.prog.cellsOf 5 = 1 := by kernel_rfl
  simp only [Value.okWide, ht] at hv
  obtain ⟨cs, rfl, hsz, _⟩ := hv
  obtain ⟨fuel, hf⟩ := h
  obtain ⟨ys, m, _, _, hlen, hyl, hy⟩ := DataW.trod_array ht hf
  have hcs : cs.size = n := hsz.trans hC
  have key : ∀ i, i < n → ∃ a : Int, cs[i]? = some (.int .u8 a) ∧ (Lit.int .u8 a).wf = true := by
    intro i hi
    have h1 := hy i hi
    rw [List.getElem?_eq_getElem (by omega), hc1, Nat.mul_one] at h1
    obtain ⟨a, e, _, wf⟩ := DataW.trod_int Try.underlying5 h1
    refine ⟨a, ?_, wf⟩
    have h2 : (List.take 1 (List.drop i (Value.cells (.agg cs)).toList))[0]? = some (Value.int .u8 a) := by rw [e]; rfl
    simpa [Value.cells] using h2
  let num : Value → Int := fun | .int _ a => a | _ => 0
  refine ⟨cs.toList.map num, ?_, by simp [hcs], ?_⟩
  · congr 1
    apply Array.ext (by simp [cu8])
    intro i h1 h2
    obtain ⟨a, e, _⟩ := key i (by omega)
    rw [Array.getElem?_eq_getElem h1] at e
    simp only [Option.some.injEq] at e
    simp [cu8, e, num]
  · intro i hi
    obtain ⟨a, e, wf⟩ := key i hi
    have hb := bounds_u8 wf
    rw [Array.getElem?_eq_getElem (by omega)] at e
    simp only [Option.some.injEq] at e
    have e3 : (cs.toList.map num).getD i 0 = a := by simp [e, num, hcs, hi]
    rw [e3]; omega
end Go.Proofs.Qxb6616454a

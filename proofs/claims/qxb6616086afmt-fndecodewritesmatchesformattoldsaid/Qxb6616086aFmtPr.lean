import Derived.Test.Qxb6616086aFmtCards
import Derived.Test.Qxb6616086aFmtLn
import Derived.ProofKit
import Derived.ChangeSlices
import Derived.ChangeSame
import Derived.ChangeMaps5
import Derived.JoinedOf
import Derived.Carry
import Derived.Stop.JoinedAt
import Derived.Stop.JoinedTold
import Derived.SevenToldRow
/-! THE TOLD CARD of FnDecodeWritesMatchesFormat. -/
namespace Go.Proofs.Qxb6616086aFmt.fnDecodeWritesMatchesFormat
open Go.ChangeShapes Go.WideShapes Go.ChangeAt Go.RowKit Go.Kit
open Go.Extern.Stop Go.Stop Go.Extern

theorem own : ownKnob Tryf.prog.godebug = none := by kernel_rfl
theorem laidOut : laidOutB Tryf.pinned.checked.prog = true := by kernel_rfl
theorem cells5 : Tryf.prog.cellsOf 5 = 1 := by kernel_rfl
theorem stops : Tryf.pinned.checked.prog.stops = ["fmt.errorf"] := by kernel_rfl
theorem stopKnobs : Tryf.pinned.checked.prog.stopKnobs = [] := by kernel_rfl
theorem quiet (os : Os) : Stop.quiet Tryf.pinned.checked.prog os := by
  intro k hk
  rw [stopKnobs] at hk
  cases hk

def spec : OpenSpec := OpenSpec.ofChange Rows.fnDecodeWritesMatchesFormatSpec

/-- Numbers that are bytes. -/
theorem bytes_of (zs : List Int) (hz : ∀ z ∈ zs, (Lit.int .u8 z).wf = true) : ∃ l : List UInt8, l.length = zs.length ∧ ∀ i, i < zs.length → byteV (l.getD i 0) = .int .u8 (zs.getD i 0) := by
  refine ⟨zs.map fun z => UInt8.ofNat z.toNat, by simp, fun i hi => ?_⟩
  have hw := hz zs[i] (List.getElem_mem hi)
  have hb : 0 ≤ zs[i] ∧ zs[i] ≤ 255 := by
    simp [Lit.wf, IntKind.min, IntKind.max, IntKind.signed, IntKind.bits] at hw
    omega
  have e1 : (zs.map fun z => UInt8.ofNat z.toNat).getD i 0 = UInt8.ofNat zs[i].toNat := by simp [hi]
  have e2 : zs.getD i 0 = zs[i] := by simp [hi]
  rw [e1, e2]
  unfold byteV
  congr 1
  have : (UInt8.ofNat zs[i].toNat).toNat = zs[i].toNat := by
    rw [UInt8.toNat_ofNat']
    omega
  rw [this]
  omega

set_option maxRecDepth 100000 in
theorem lifted (os : Os) (started : os.Started) (H : Type) (enc : TypeId × Value → H) :
    ReturnsInTold none {} Tryf.checked os 3 .any Input.okWide (spec.preRow enc Tryf.prog Tryf.f3 [] false []) (fun F => (spec.at F).post enc Tryf.prog Tryf.f3 false true false false) (aloneAtReturn Tryf.prog) nothingAlways := by
  refine returnsInTold_of_row (C := Tryf.checked) (s := spec) (by kernel_rfl) own started (by kernel_rfl) Tryf.func3
    (OpenSpec.witness_stopped (enc := enc) (C := Tryf.checked) false ⟨#[], #[.slice none 0 0], []⟩ 8 (by kernel_rfl) (by kernel_rfl) (by kernel_rfl) (by kernel_rfl)) ?_
  intro F W base args ds gs before _ hF hval0 hW _ _ hsz _ _
  have hval : ∀ (j : Nat) t v, Tryf.f3.params[j]? = some t → args[j]? = some v → Value.okWide Tryf.prog W .any base t v := hval0
  have hW' := hW
  obtain ⟨p, q, hA0, hV, rfl, _, _⟩ := hW
  have hA : DataW.TrodAll enc Tryf.prog W 0 (fun _ => true) true Tryf.f3.params.toList args.toList ds p := hA0
  rw [Tryf.params3] at hA hval
  obtain ⟨v0, d0, rfl, rfl, h0⟩ := trodAll_one hA
  obtain ⟨rfl, rfl⟩ := trodVars_none hV
  obtain ⟨a0, len, cap, rfl⟩ := okWide_slice Tryf.underlying22 (hval 0 22 v0 rfl rfl)
  have h0k := h0
  obtain ⟨fuel, hf⟩ := h0
  clear hA0 hval0
  simp only [List.append_nil] at hW'
  have hlt : ∀ x ∈ p, x.block < W.heap.size := fun x hx => by simpa using hW'.lt x hx
  have hargs : ∀ (W' : World), Below W.heap.size W W' → DataW.Trod enc Tryf.prog W' 0 (fun b => decide (b < W.heap.size)) true 22 (.slice a0 len cap) d0 p :=
    fun W' hn => Below.trod laidOut (by kernel_rfl) (of_decide_eq_true (by kernel_rfl)) h0k hn hlt
  have hwalk : Calls Tryf.prog 3 #[.slice a0 len cap] W fun e w' => e = .returned (.bool true) ∧ Below W.heap.size W w' := by
    rcases open_ints Tryf.underlying22 Tryf.underlying5 cells5 hf with ⟨hcs, hx⟩ | ⟨a, len', cap', zs, hcs, _, hl, hm, hz, hx, hcell, hwz⟩
    · simp [Value.cells] at hcs
      obtain ⟨rfl, rfl, rfl⟩ := hcs
      exact law_nil W
    · simp [Value.cells] at hcs
      obtain ⟨rfl, rfl, rfl⟩ := hcs
      simp only [if_true] at hz
      have hlen : (zs.take len).length = len := by rw [List.length_take]; omega
      obtain ⟨l, hll, hlb⟩ := bytes_of (zs.take len) (fun x hx => hwz x (List.mem_of_mem_take hx))
      refine law_some F.told a len cap l W hF (by omega) (by omega) (fun i hi => ?_)
      have hi' : i < len := by omega
      rw [hlb i (by omega), hcell i (by omega)]
      simp [List.getD_eq_getElem?_getD, List.getElem?_take_of_lt hi']
  refine hwalk.mono fun e W' ⟨he, hnx⟩ => ?_
  subst he
  refine ⟨_, rfl, _, _, _, [], _, [], hW', ?_, trodAll_mk1 (hargs _ hnx), rfl, hnx.frame _, fun h => by cases h⟩
  exact trodAll_mk1 (shut_bool Tryf.underlying4 true)

theorem proved : Rows.FnDecodeWritesMatchesFormatToldSaid :=
  Claim7.holds_of_told_any 3 Tryf.f3 "fmt.errorf" [] [] _ _ _ (by kernel_rfl) rfl rfl rfl laidOut (by kernel_rfl) rfl ⟨rfl, rfl, rfl, rfl, rfl, rfl, rfl⟩ rfl rfl (by kernel_rfl) (by kernel_rfl) Tryf.func3 (by kernel_rfl)
    (of_decide_eq_true (by kernel_rfl)) (of_decide_eq_true (by kernel_rfl)) stops.symm rfl stopKnobs.symm (by kernel_rfl)
    (by kernel_rfl) (by kernel_rfl) (by kernel_rfl) (by kernel_rfl) (by kernel_rfl) (by kernel_rfl) (by kernel_rfl) (by kernel_rfl) (by kernel_rfl) rfl (by kernel_rfl) rfl rfl
    rfl rfl
    rfl (by kernel_rfl) (by kernel_rfl) (by kernel_rfl) (by decide) (by kernel_rfl)
    (OpenClaim.moreEntering_of (by kernel_rfl) (by kernel_rfl) (by kernel_rfl) (by kernel_rfl) (by kernel_rfl) (by kernel_rfl) (by kernel_rfl) (by kernel_rfl) (by kernel_rfl) (by kernel_rfl))
    ⟨_, WideRow.started_initial, quiet _⟩
    (fun os started _ H enc _ => lifted os started H enc)
end Go.Proofs.Qxb6616086aFmt.fnDecodeWritesMatchesFormat

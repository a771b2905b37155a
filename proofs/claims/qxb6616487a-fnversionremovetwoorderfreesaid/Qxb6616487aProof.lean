import Derived.Test.Qxb6616487aLaw
import Derived.Deep.Slices
import Derived.Deep.SlicePairs
import Derived.ProofKit
import Derived.OpenShut
import Derived.ShutString
import Derived.ChangeOld
import Derived.Below
namespace Go.Proofs.Qxb6616487a.fnVersionRemoveTwoOrderFree
open Go.ChangeShapes Go.WideShapes Go.ChangeAt Go.RowKit Go.Deep

theorem own : ownKnob Try.prog.godebug = none := by kernel_rfl
theorem laidOut : laidOutB Try.prog = true := by kernel_rfl

theorem flat_addr {w : World} {x : Addr} {v : Value} (h : w.cell? (x.add 0) = some v) : ∃ b o, x = ⟨b, o, none⟩ := by
  obtain ⟨b, o, s⟩ := x
  have hs : s = none := by simpa [Addr.add] using World.cell?_spot h
  exact ⟨b, o, by rw [hs]⟩

/-- One inner slice, opened. -/
theorem open_inner {H : Type} {enc : TypeId × Value → H} {W : World} {fuel : Nat} {v : Value} {x : DataW H × List MemPlace} (h : DataW.trod enc Try.prog W 0 (fun _ => true) true fuel 63 [v] = some x) :
    ∃ q : Option Addr × Nat × List (Int × Int), v = .slice q.1 q.2.2.length q.2.1 ∧ q.2.2.length ≤ maxLen ∧ ∀ k, k < q.2.2.length → ∃ b o, q.1 = some ⟨b, o, none⟩ ∧
      W.cell? ⟨b, o + k * 2, none⟩ = some (.int .i64 (q.2.2.getD k (0, 0)).1) ∧ W.cell? ⟨b, o + k * 2 + 1, none⟩ = some (.int .i64 (q.2.2.getD k (0, 0)).2) ∧ -9223372036854775808 ≤ (q.2.2.getD k (0, 0)).1 ∧ (q.2.2.getD k (0, 0)).1 ≤ 9223372036854775807 := by
  rcases open_slice_pairs Try.underlying63 Try.underlying90 (by kernel_rfl) rfl rfl (by kernel_rfl) (by kernel_rfl) h with ⟨hcs, _⟩ | ⟨a, len, cap, m, n, V0, V1, D0, D1, P0, P1, hcs, _, hl, hm, hmm, _, hx⟩
  · have e : v = .slice none 0 0 := by simpa using hcs
    exact ⟨(none, 0, []), e, by simp, fun k hk => by simp at hk⟩
  · have e : v = .slice (some a) len cap := by simpa using hcs
    have hme : m = cap := by simpa using hmm
    obtain ⟨F, hF⟩ := choose_lt (α := Int × Int) (n := len) (p := fun i q => W.cell? (a.add (i * 2)) = some (.int .i64 q.1) ∧ W.cell? (a.add (i * 2 + 1)) = some (.int .i64 q.2) ∧ -9223372036854775808 ≤ q.1 ∧ q.1 ≤ 9223372036854775807) (fun i hi => by
      obtain ⟨h1, h2, h3, h4⟩ := hx i (by omega)
      obtain ⟨z0, e0, _, w0⟩ := DataW.trod_int Try.underlying3 h3
      obtain ⟨z1, e1, _, _⟩ := DataW.trod_int Try.underlying3 h4
      have e0 : V0 i = .int .i64 z0 := by simpa using e0
      have e1 : V1 i = .int .i64 z1 := by simpa using e1
      rw [e0] at h1
      rw [e1] at h2
      have := bounds_i64 w0
      exact ⟨(z0, z1), h1, h2, by omega, by omega⟩)
    refine ⟨(some a, cap, (List.range len).map F), by simp [e], by simp; omega, fun k hk => ?_⟩
    have hk' : k < len := by simpa using hk
    have hg : ((List.range len).map F).getD k (0, 0) = F k := by simp [hk']
    obtain ⟨b, o, rfl⟩ := flat_addr (w := W) (x := a) (by have := (hF 0 (by omega)).1; rwa [Nat.zero_mul] at this)
    obtain ⟨c1, c2, c3⟩ := hF k hk'
    rw [add_plain] at c1 c2
    simp only [hg]
    exact ⟨b, o, rfl, c1, by rw [Nat.add_assoc]; exact c2, c3⟩

theorem open_blocks {H : Type} {enc : TypeId × Value → H} {W : World} {fuel : Nat} {a0 : Option Addr} {len0 cap0 : Nat} {x : DataW H × List MemPlace} (h : DataW.trod enc Try.prog W 0 (fun _ => true) true fuel 48 [.slice a0 len0 cap0] = some x) :
    ∃ A C B, InB W a0 len0 A C B := by
  rcases open_slice1 Try.underlying48 (by kernel_rfl) h with ⟨hcs, _⟩ | ⟨a, len, cap, m, n, V, D, Pl, hcs, _, hl, hm, hmm, _, hx⟩
  · simp at hcs
    obtain ⟨rfl, rfl, rfl⟩ := hcs
    exact ⟨fun _ => none, fun _ => 0, [], rfl, Nat.zero_le _, fun i hi => by omega, fun i k hi => by omega⟩
  · simp at hcs
    obtain ⟨rfl, rfl, rfl⟩ := hcs
    have hme : m = cap0 := by simpa using hmm
    obtain ⟨F, hF⟩ := choose_lt (α := Option Addr × Nat × List (Int × Int)) (n := len0) (p := fun i q => W.cell? (a.add i) = some (.slice q.1 q.2.2.length q.2.1) ∧ q.2.2.length ≤ maxLen ∧ ∀ k, k < q.2.2.length → ∃ b o, q.1 = some ⟨b, o, none⟩ ∧
      W.cell? ⟨b, o + k * 2, none⟩ = some (.int .i64 (q.2.2.getD k (0, 0)).1) ∧ W.cell? ⟨b, o + k * 2 + 1, none⟩ = some (.int .i64 (q.2.2.getD k (0, 0)).2) ∧ -9223372036854775808 ≤ (q.2.2.getD k (0, 0)).1 ∧ (q.2.2.getD k (0, 0)).1 ≤ 9223372036854775807) (fun i hi => by
      obtain ⟨h1, h2⟩ := hx i (by omega)
      obtain ⟨q, e, h3, h4⟩ := open_inner h2
      rw [e] at h1
      exact ⟨q, h1, h3, h4⟩)
    have hb : ∀ i, i < len0 → bAt ((List.range len0).map (fun i => (F i).2.2)) i = (F i).2.2 := fun i hi => by simp [bAt, hi]
    refine ⟨fun i => (F i).1, fun i => (F i).2.1, (List.range len0).map (fun i => (F i).2.2), by simp, by omega, fun i hi => ?_, fun i k hi hk => ?_⟩
    · obtain ⟨b, o, rfl⟩ := flat_addr (w := W) (x := a) (hF 0 (by omega)).1
      have h1 := hF i hi
      rw [add_plain] at h1
      unfold lenAt
      rw [hb i hi]
      exact ⟨b, o, rfl, h1.1, h1.2.1⟩
    · unfold lenAt at hk
      rw [hb i hi] at hk
      unfold tsAt rtsAt
      rw [hb i hi]
      exact (hF i hi).2.2 k hk

set_option maxRecDepth 100000 in
theorem lifted (os : Os) (started : os.Started) (H : Type) (enc : TypeId × Value → H) :
    ReturnsInHanded {} Try.checked os 7 .any (Rows.fnVersionRemoveTwoOrderFreeSpec.pre6 enc Try.prog Try.f7 Rows.fnVersionRemoveTwoOrderFreeRow.domain false) (Rows.fnVersionRemoveTwoOrderFreeSpec.post enc Try.prog Try.f7 false true false false) := by
  refine returnsInHanded_of_change (C := Try.checked) own started (by kernel_rfl) Try.func7
    (ChangeSpec.witness6 (enc := enc) (C := Try.checked) false ⟨#[], #[.slice none 0 0, .int .i64 0, .int .i64 0], []⟩ 8 (by kernel_rfl) (by kernel_rfl) (by kernel_rfl) (by kernel_rfl)) ?_
  intro W base args ds gs before hval0 hW hcnd _
  have hval : ∀ (j : Nat) t v, Try.f7.params[j]? = some t → args[j]? = some v → Value.okWide Try.prog W .any base t v := hval0
  have hW' := hW
  obtain ⟨p, q, hA0, hV, rfl, hfz, hnd⟩ := hW
  have hA : DataW.TrodAll enc Try.prog W 0 (fun _ => true) true Try.f7.params.toList args.toList ds p := hA0
  rw [Try.params7] at hA hval
  obtain ⟨v0, vs0, d0, ds0, p0, q0, hargs, rfl, rfl, h0, r0⟩ := trodAll_cons hA
  obtain ⟨v1, vs1, d1, ds1, p1, q1, rfl, rfl, rfl, h1, r1⟩ := trodAll_cons r0
  obtain ⟨v2, vs2, d2, ds2, p2, q2, rfl, rfl, rfl, h2, r2⟩ := trodAll_cons r1
  obtain ⟨rfl, rfl, rfl⟩ := trodAll_nil r2
  obtain rfl : args = #[v0, v1, v2] := by cases args; simp_all
  obtain ⟨rfl, rfl⟩ := trodVars_none hV
  obtain ⟨a0, len0, cap0, rfl⟩ := okWide_slice Try.underlying48 (hval 0 48 v0 rfl rfl)
  have lt0 : ∀ x ∈ p0, x.block < W.heap.size := by obtain ⟨m, hm⟩ := h0; exact DataW.trod_lt m _ _ _ hm
  obtain ⟨A, C, B, hin⟩ : ∃ A C B, InB W a0 len0 A C B := by
    obtain ⟨fuel, hf⟩ := h0
    exact open_blocks (by simpa [Value.cells] using hf)
  obtain ⟨a1, rfl, rfl, rfl, w1⟩ := open_int Try.underlying3 (hval 1 3 v1 rfl rfl) h1
  obtain ⟨a2, rfl, rfl, rfl, w2⟩ := open_int Try.underlying3 (hval 2 3 v2 rfl rfl) h2
  clear hA0 hval0
  refine (law (cap := cap0) hin a1 a2).mono fun e W' ⟨he, bel⟩ => ?_
  subst he
  exact ⟨_, rfl, _, _, _, [], _, [], hW', trodAll_mk1 (shut_bool Try.underlying4 _), (trodAll_cons_mk (Below.trod laidOut (by kernel_rfl) (of_decide_eq_true (by kernel_rfl)) h0 bel lt0) (trodAll_cons_mk (shut_int Try.underlying3 w1) (trodAll_cons_mk (shut_int Try.underlying3 w2) trodAll_mk0))), rfl, bel.frame _, fun h => by cases h⟩

theorem over : Rows.fnVersionRemoveTwoOrderFreeRow.holds Try.pinned (OpenSpec.ofChange Rows.fnVersionRemoveTwoOrderFreeSpec) :=
  OpenClaim.holds_of_wide 7 Try.f7 rfl rfl rfl rfl rfl rfl rfl ⟨rfl, rfl, rfl, rfl, rfl⟩ rfl rfl rfl rfl rfl (by kernel_rfl) Try.func7 (by kernel_rfl)
    (of_decide_eq_true (by kernel_rfl)) (by unfold Func.isWrapper; first | (rw [if_pos (by decide +kernel)]; kernel_rfl) | (rw [if_neg (by decide +kernel)]; exact ⟨rfl, rfl⟩))
    (fun os started H enc _ => lifted os started H enc)

/-- THE STATEMENT -/
theorem proved : Rows.FnVersionRemoveTwoOrderFreeSaid := over
#print axioms proved
end Go.Proofs.Qxb6616487a.fnVersionRemoveTwoOrderFree

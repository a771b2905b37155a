import Derived.Test.Qxb6616086aFmtTa
/-! b[s:e] of the payload: at the payload's end the address is whatever. -/
namespace Go.Proofs.Qxb6616086aFmt
open Go.RowKit

theorem wpList_sub {ops : Array Oper} {rest : List Oper} {o : Oper} {a : Act} {w : World} {Q : Exit → Act → World → Prop} (hgd : o.guard = none) (x lo hi : Operand) (hop : o.op = Op.slice 22 x (some lo) (some hi) none)
    (pb N s e : Nat) (hx : a.eval x = .slice (some ⟨pb, 0, none⟩) N N) (hlo : a.eval lo = .int .i64 s) (hhi : a.eval hi = .int .i64 e) (hse : s ≤ e) (heN : e ≤ N) (_hN : N ≤ 65536)
    (h : ∀ A C, (s < N → A = ⟨pb, s, none⟩) → wpList Tryf.prog ops Q rest (a.put o.dst (.slice (some A) (e - s) C)) w) : wpList Tryf.prog ops Q (o :: rest) a w :=
  wpList_plain hgd fun K hK => by
    unfold Oper.wp
    simp only [execOp, hop, hx, hlo, hhi, Option.map_some, Option.map_none]
    go_simp
    by_cases q : N = s
    · simp only [if_pos q]
      exact hK _ _ (h ⟨pb, 0, none⟩ (N - s) (fun r => by omega))
    · simp only [if_neg q]
      exact hK _ _ (h ⟨pb, s, none⟩ (N - s) (fun _ => rfl))

theorem sub_len {b : List UInt8} {s e : Nat} (he : e ≤ b.length) : (sub b s e).length = e - s := by
  unfold sub
  rw [List.length_take, List.length_drop]
  omega
theorem sub_get {b : List UInt8} {s e j : Nat} (hj : j < e - s) : (sub b s e).getD j 0 = b.getD (s + j) 0 := by
  unfold sub
  rw [List.getD_eq_getElem?_getD, List.getD_eq_getElem?_getD, List.getElem?_take, if_pos hj, List.getElem?_drop]

/-- string(b[s:e]). -/
theorem conv_sub {w : World} {pb : Nat} {b : List UInt8} (hp : PayIs w pb b) {s e : Nat} (hse : s ≤ e) (he : e ≤ b.length) {A : Addr} {C : Nat} (hA : s < b.length → A = ⟨pb, s, none⟩) :
    (convert 22 9 (.slice (some A) (e - s) C)).run Tryf.prog w = .ok (strV (sub b s e)) w := by
  have h := run_convert_bytes_back (P := Tryf.prog) w 22 9 5 A C (sub b s e) Tryf.underlying22 Tryf.underlying5 Tryf.underlying9 (fun j hj => by
    rw [sub_len he] at hj
    rw [hA (by omega), Addr.add_lit, hp (s + j) (by omega), ← sub_get hj]
    simp [List.getD_eq_getElem?_getD, List.getElem?_eq_getElem (show j < (sub b s e).length by rw [sub_len he]; exact hj)])
  rw [sub_len he] at h
  exact h
/-- The cells of b[s:e]. -/
theorem sub_cells {w : World} {pb : Nat} {b : List UInt8} (hp : PayIs w pb b) {s e : Nat} (he : e ≤ b.length) {A : Addr} (hA : s < b.length → A = ⟨pb, s, none⟩) :
    ∀ i, i < (sub b s e).length → w.cell? (A.add i) = some (byteV ((sub b s e).getD i 0)) := fun i hi => by
  rw [sub_len he] at hi
  rw [hA (by omega), Addr.add_lit, hp (s + i) (by omega), sub_get hi]
  rfl
end Go.Proofs.Qxb6616086aFmt

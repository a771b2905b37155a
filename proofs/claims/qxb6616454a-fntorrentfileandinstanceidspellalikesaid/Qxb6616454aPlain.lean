import Derived.Lib.HexFns
/-! THE PLAIN LAWS of this seat: lists of numbers, hexadecimal digits. No Go in sight. -/
namespace Go.Proofs.Qxb6616454a
open Go.Lib

/-- The order of two lists of numbers: element by element, a shorter list that is the other's head first. -/
def lexCmp : List Int → List Int → Int
  | [], [] => 0
  | [], _ :: _ => -1
  | _ :: _, [] => 1
  | x :: xs, y :: ys => if x < y then -1 else if y < x then 1 else lexCmp xs ys

/-- A lowercase hexadecimal digit's value; -1 for any other byte. -/
def hexVal (c : Int) : Int := if 48 ≤ c ∧ c ≤ 57 then c - 48 else if 97 ≤ c ∧ c ≤ 102 then c - 97 + 10 else -1

def nums (l : List UInt8) : List Int := l.map fun b => (b.toNat : Int)

theorem nums_length (l : List UInt8) : (nums l).length = l.length := by simp [nums]

theorem lexCmp_drop (a b : List Int) (k : Nat) (ha : k < a.length) (hb : k < b.length) :
    lexCmp (a.drop k) (b.drop k) = if a[k] < b[k] then -1 else if b[k] < a[k] then 1 else lexCmp (a.drop (k + 1)) (b.drop (k + 1)) := by
  rw [List.drop_eq_getElem_cons ha, List.drop_eq_getElem_cons hb, lexCmp]

theorem lexCmp_end (a b : List Int) (h : a = [] ∨ b = []) : lexCmp a b = if a.length < b.length then -1 else if b.length < a.length then 1 else 0 := by
  cases a <;> cases b <;> simp_all [lexCmp]

theorem digit_lt (m n : Nat) (hm : m < 16) (hn : n < 16) : ((Hx.digit m).toNat < (Hx.digit n).toNat ↔ m < n) := by
  have h : ∀ a b : Fin 16, ((Hx.digit a.val).toNat < (Hx.digit b.val).toNat ↔ a.val < b.val) := by decide
  exact h ⟨m, hm⟩ ⟨n, hn⟩

theorem digit_val (m : Nat) (hm : m < 16) : hexVal ((Hx.digit m).toNat : Int) = m := by
  have h : ∀ a : Fin 16, hexVal ((Hx.digit a.val).toNat : Int) = a.val := by decide
  exact h ⟨m, hm⟩

/-- The hexadecimal texts of two lists of bytes, the same text behind each, stand in the order of the bytes. -/
theorem lexCmp_encode (t : List UInt8) : ∀ (a b : List UInt8), a.length = b.length →
    lexCmp (nums (Hx.encode a ++ t)) (nums (Hx.encode b ++ t)) = lexCmp (nums a) (nums b)
  | [], [], _ => by
    have : ∀ l : List Int, lexCmp l l = 0 := by
      intro l; induction l with
      | nil => rfl
      | cons x xs ih => simp [lexCmp, ih]
    simp [this]
  | [], _ :: _, h => by simp at h
  | _ :: _, [], h => by simp at h
  | x :: xs, y :: ys, h => by
    have ih := lexCmp_encode t xs ys (by simpa using h)
    rw [Hx.encode_cons, Hx.encode_cons]
    simp only [nums, List.cons_append, List.map_cons, lexCmp] at ih ⊢
    rw [ih]
    have hx : x.toNat < 256 := x.toNat_lt
    have hy : y.toNat < 256 := y.toNat_lt
    have a1 := digit_lt (x.toNat / 16) (y.toNat / 16) (by omega) (by omega)
    have a2 := digit_lt (y.toNat / 16) (x.toNat / 16) (by omega) (by omega)
    have b1 := digit_lt (x.toNat % 16) (y.toNat % 16) (by omega) (by omega)
    have b2 := digit_lt (y.toNat % 16) (x.toNat % 16) (by omega) (by omega)
    simp only [Int.ofNat_lt, a1, a2, b1, b2]
    split
    · rw [if_pos (by omega)]
    · split
      · rw [if_neg (by omega), if_pos (by omega)]
      · split
        · rw [if_pos (by omega)]
        · split
          · rw [if_neg (by omega), if_pos (by omega)]
          · rw [if_neg (by omega), if_neg (by omega)]

theorem nums_bytesOf (xs : List Int) (h : ∀ i, i < xs.length → 0 ≤ xs.getD i 0 ∧ xs.getD i 0 < 256) : nums (Lib.bytesOf xs) = xs := by
  apply List.ext_getElem?
  intro i
  by_cases hi : i < xs.length
  · have h1 := Hx.bytes_at xs i hi
    have h2 := h i hi
    rw [nums, List.getElem?_map, h1]
    simp only [List.getD_eq_getElem?_getD, List.getElem?_eq_getElem hi, Option.getD_some, Option.map_some] at h2 ⊢
    congr 1
    rw [Hx.byte_toNat _ h2.1 h2.2]
    omega
  · have h3 : (Lib.bytesOf xs).length = xs.length := by simp [Lib.bytesOf]
    rw [List.getElem?_eq_none (by rw [nums_length, h3]; omega), List.getElem?_eq_none (by omega)]

theorem bytesOf_length (xs : List Int) : (Lib.bytesOf xs).length = xs.length := by simp [Lib.bytesOf]

/-- The two digits of byte number i, read back. -/
theorem spell (xs : List Int) (h : ∀ i, i < xs.length → 0 ≤ xs.getD i 0 ∧ xs.getD i 0 < 256) (i : Nat) (hi : i < xs.length) (a b : UInt8)
    (ha : (Hx.encode (Lib.bytesOf xs))[2 * i]? = some a) (hb : (Hx.encode (Lib.bytesOf xs))[2 * i + 1]? = some b) :
    0 ≤ hexVal (a.toNat : Int) ∧ hexVal (a.toNat : Int) ≤ 15 ∧ 0 ≤ hexVal (b.toNat : Int) ∧ hexVal (b.toNat : Int) ≤ 15 ∧ hexVal (a.toNat : Int) * 16 + hexVal (b.toNat : Int) = xs.getD i 0 := by
  obtain ⟨e1, e2⟩ := Hx.encode_at (Lib.bytesOf xs) i _ (Hx.bytes_at xs i hi)
  rw [ha] at e1; rw [hb] at e2
  have h2 := h i hi
  have h3 := Hx.byte_toNat _ h2.1 h2.2
  simp only [Option.some.injEq] at e1 e2
  rw [h3] at e1 e2
  subst e1; subst e2
  rw [digit_val _ (by omega), digit_val _ (by omega)]
  omega

end Go.Proofs.Qxb6616454a


/-! THE PLAIN LAWS of this seat: the order of texts; routes; the order-preserving encoding. No Go in sight. -/
namespace Go.Proofs.Qxb6615138a

def cmpL : List UInt8 → List UInt8 → Int
  | [], [] => 0
  | [], _ :: _ => -1
  | _ :: _, [] => 1
  | x :: xs, y :: ys => if x < y then -1 else if y < x then 1 else cmpL xs ys

theorem cmpL_self : ∀ a : List UInt8, cmpL a a = 0
  | [] => rfl
  | x :: xs => by
    rw [cmpL, if_neg (UInt8.lt_irrefl x), if_neg (UInt8.lt_irrefl x)]
    exact cmpL_self xs

theorem u8_cases (x y : UInt8) : x < y ∨ x = y ∨ y < x := by
  rcases Nat.lt_trichotomy x.toNat y.toNat with h | h | h
  · exact .inl (UInt8.lt_iff_toNat_lt.2 h)
  · exact .inr (.inl (UInt8.toNat_inj.1 h))
  · exact .inr (.inr (UInt8.lt_iff_toNat_lt.2 h))
theorem u8_asymm {x y : UInt8} (h : x < y) : ¬ y < x := fun q => by
  have := UInt8.lt_iff_toNat_lt.1 h
  have := UInt8.lt_iff_toNat_lt.1 q
  omega
theorem u8_trans {x y z : UInt8} (h : x < y) (q : y < z) : x < z := by
  have := UInt8.lt_iff_toNat_lt.1 h
  have := UInt8.lt_iff_toNat_lt.1 q
  exact UInt8.lt_iff_toNat_lt.2 (by omega)

theorem cmpL_lt {x y : UInt8} {xs ys : List UInt8} (h : x < y) : cmpL (x :: xs) (y :: ys) = -1 := by rw [cmpL, if_pos h]
theorem cmpL_gt {x y : UInt8} {xs ys : List UInt8} (h : y < x) : cmpL (x :: xs) (y :: ys) = 1 := by rw [cmpL, if_neg (u8_asymm h), if_pos h]
theorem cmpL_eq (x : UInt8) (xs ys : List UInt8) : cmpL (x :: xs) (x :: ys) = cmpL xs ys := by rw [cmpL, if_neg (UInt8.lt_irrefl x), if_neg (UInt8.lt_irrefl x)]

theorem cmpL_range : ∀ a b : List UInt8, cmpL a b = -1 ∨ cmpL a b = 0 ∨ cmpL a b = 1
  | [], [] => .inr (.inl rfl)
  | [], _ :: _ => .inl rfl
  | _ :: _, [] => .inr (.inr rfl)
  | x :: xs, y :: ys => by
    rcases u8_cases x y with h | h | h
    · exact .inl (cmpL_lt h)
    · subst h; rw [cmpL_eq]; exact cmpL_range xs ys
    · exact .inr (.inr (cmpL_gt h))

theorem cmpL_swap : ∀ a b : List UInt8, cmpL b a = - cmpL a b
  | [], [] => rfl
  | [], _ :: _ => rfl
  | _ :: _, [] => rfl
  | x :: xs, y :: ys => by
    rcases u8_cases x y with h | h | h
    · rw [cmpL_lt h, cmpL_gt h]; rfl
    · subst h; rw [cmpL_eq, cmpL_eq]; exact cmpL_swap xs ys
    · rw [cmpL_lt h, cmpL_gt h]

theorem cmpL_zero : ∀ a b : List UInt8, cmpL a b = 0 → a = b
  | [], [], _ => rfl
  | [], _ :: _, h => by simp [cmpL] at h
  | _ :: _, [], h => by simp [cmpL] at h
  | x :: xs, y :: ys, h => by
    rcases u8_cases x y with q | q | q
    · rw [cmpL_lt q] at h; omega
    · subst q; rw [cmpL_eq] at h; rw [cmpL_zero xs ys h]
    · rw [cmpL_gt q] at h; omega

theorem cmpL_trans : ∀ a b c : List UInt8, cmpL a b = -1 → cmpL b c = -1 → cmpL a c = -1
  | [], [], _, h, _ => by simp [cmpL] at h
  | [], _ :: _, [], _, q => by simp [cmpL] at q
  | [], _ :: _, _ :: _, _, _ => rfl
  | _ :: _, [], _, h, _ => by simp [cmpL] at h
  | _ :: _, _ :: _, [], _, q => by simp [cmpL] at q
  | x :: xs, y :: ys, z :: zs, h, q => by
    rcases u8_cases x y with h1 | h1 | h1
    · rcases u8_cases y z with h2 | h2 | h2
      · exact cmpL_lt (u8_trans h1 h2)
      · subst h2; exact cmpL_lt h1
      · rw [cmpL_gt h2] at q; omega
    · subst h1
      rcases u8_cases x z with h2 | h2 | h2
      · exact cmpL_lt h2
      · subst h2
        rw [cmpL_eq] at h q ⊢
        exact cmpL_trans xs ys zs h q
      · rw [cmpL_gt h2] at q; omega
    · rw [cmpL_gt h1] at h; omega

/-- How three texts stand: what the order of the first two and of the last two says of the outer two. -/
theorem cmpL_three (a b c : List UInt8) : (cmpL a b = 0 → cmpL a c = cmpL b c) ∧ (cmpL b c = 0 → cmpL a c = cmpL a b) ∧ (cmpL a b = -1 → cmpL b c = -1 → cmpL a c = -1) :=
  ⟨fun h => by rw [cmpL_zero a b h], fun h => by rw [← cmpL_zero b c h], cmpL_trans a b c⟩

/-- The order of two routes: registrar first, then distributor. -/
def cmpR (ar ad br bd : List UInt8) : Int := if cmpL ar br ≠ 0 then cmpL ar br else cmpL ad bd

theorem cmpR_range (ar ad br bd : List UInt8) : cmpR ar ad br bd = -1 ∨ cmpR ar ad br bd = 0 ∨ cmpR ar ad br bd = 1 := by
  unfold cmpR
  split
  · exact cmpL_range _ _
  · exact cmpL_range _ _
theorem cmpR_swap (ar ad br bd : List UInt8) : cmpR br bd ar ad = - cmpR ar ad br bd := by
  unfold cmpR
  rw [cmpL_swap ar br, cmpL_swap ad bd]
  split <;> split <;> omega
theorem cmpR_zero (ar ad br bd : List UInt8) : cmpR ar ad br bd = 0 ↔ (ar = br ∧ ad = bd) := by
  constructor
  · intro h
    unfold cmpR at h
    split at h
    · rename_i q; exact absurd h q
    · rename_i q
      exact ⟨cmpL_zero _ _ (by omega), cmpL_zero _ _ h⟩
  · rintro ⟨rfl, rfl⟩
    unfold cmpR
    rw [cmpL_self, cmpL_self]
    rfl
theorem cmpR_trans (ar ad br bd cr cd : List UInt8) :
    (cmpR ar ad br bd ≤ 0 → cmpR br bd cr cd ≤ 0 → cmpR ar ad cr cd ≤ 0) ∧ (cmpR ar ad br bd < 0 → cmpR br bd cr cd ≤ 0 → cmpR ar ad cr cd < 0) ∧ (cmpR ar ad br bd ≤ 0 → cmpR br bd cr cd < 0 → cmpR ar ad cr cd < 0) := by
  have h1 := cmpL_three ar br cr
  have h2 := cmpL_three ad bd cd
  have r1 := cmpL_range ar br
  have r2 := cmpL_range br cr
  have r3 := cmpL_range ad bd
  have r4 := cmpL_range bd cd
  unfold cmpR
  refine ⟨?_, ?_, ?_⟩ <;> split <;> split <;> split <;> intro _ _ <;> omega
theorem cmpR_first (ar ad br bd x y : List UInt8) (h : ar ≠ br) : cmpR ar x br y = cmpR ar ad br bd := by
  have hz : cmpL ar br ≠ 0 := fun q => h (cmpL_zero _ _ q)
  unfold cmpR
  rw [if_pos hz, if_pos hz]

/-! The encoding -/
def esc : List UInt8 → List UInt8
  | [] => []
  | c :: s => if c = 0 then 0 :: 255 :: esc s else c :: esc s
def encS (s : List UInt8) : List UInt8 := esc s ++ [0, 0]
def encP (r d : List UInt8) : List UInt8 := encS r ++ encS d

theorem encS_nil (t : List UInt8) : encS [] ++ t = 0 :: 0 :: t := rfl
theorem encS_zero (s t : List UInt8) : encS (0 :: s) ++ t = 0 :: 255 :: (encS s ++ t) := by simp [encS, esc]
theorem encS_cons (c : UInt8) (h : c ≠ 0) (s t : List UInt8) : encS (c :: s) ++ t = c :: (encS s ++ t) := by simp [encS, esc, h]
theorem u8_pos {c : UInt8} (h : c ≠ 0) : 0 < c := by
  rcases u8_cases 0 c with q | q | q
  · exact q
  · exact absurd q.symm h
  · have := UInt8.lt_iff_toNat_lt.1 q; simp at this

theorem cmpL_enc : ∀ (x y t u : List UInt8), cmpL (encS x ++ t) (encS y ++ u) = if cmpL x y ≠ 0 then cmpL x y else cmpL t u
  | [], [], t, u => by rw [encS_nil, encS_nil, cmpL_eq, cmpL_eq]; rfl
  | [], c :: y, t, u => by
    have e : cmpL [] (c :: y) = -1 := rfl
    rw [e, if_pos (by omega), encS_nil]
    by_cases h : c = 0
    · subst h; rw [encS_zero, cmpL_eq, cmpL_lt (by decide)]
    · rw [encS_cons c h, cmpL_lt (u8_pos h)]
  | c :: x, [], t, u => by
    have e : cmpL (c :: x) [] = 1 := rfl
    rw [e, if_pos (by omega), encS_nil]
    by_cases h : c = 0
    · subst h; rw [encS_zero, cmpL_eq, cmpL_gt (by decide)]
    · rw [encS_cons c h, cmpL_gt (u8_pos h)]
  | c :: x, d :: y, t, u => by
    have ih := cmpL_enc x y t u
    rcases u8_cases c d with h | h | h
    · rw [cmpL_lt h, if_pos (by omega)]
      have hd : d ≠ 0 := fun q => by subst q; have := UInt8.lt_iff_toNat_lt.1 h; simp at this
      rw [encS_cons d hd]
      by_cases hc : c = 0
      · subst hc; rw [encS_zero, cmpL_lt h]
      · rw [encS_cons c hc, cmpL_lt h]
    · subst h
      rw [cmpL_eq]
      by_cases hc : c = 0
      · subst hc; rw [encS_zero, encS_zero, cmpL_eq, cmpL_eq]; exact ih
      · rw [encS_cons c hc, encS_cons c hc, cmpL_eq]; exact ih
    · rw [cmpL_gt h, if_pos (by omega)]
      have hc : c ≠ 0 := fun q => by subst q; have := UInt8.lt_iff_toNat_lt.1 h; simp at this
      rw [encS_cons c hc]
      by_cases hd : d = 0
      · subst hd; rw [encS_zero, cmpL_gt h]
      · rw [encS_cons d hd, cmpL_gt h]

theorem cmpL_encP (ar ad br bd : List UInt8) : cmpL (encP ar ad) (encP br bd) = cmpR ar ad br bd := by
  unfold encP
  rw [cmpL_enc]
  have h := cmpL_enc ad bd [] []
  rw [List.append_nil, List.append_nil] at h
  rw [h]
  unfold cmpR
  split
  · rfl
  · split
    · rfl
    · rename_i q
      have : cmpL ad bd = 0 := by omega
      rw [this]; rfl

theorem esc_le : ∀ s : List UInt8, (esc s).length ≤ 2 * s.length
  | [] => by simp [esc]
  | c :: s => by
    have := esc_le s
    unfold esc
    split <;> simp <;> omega
theorem esc_snoc : ∀ (s : List UInt8) (c : UInt8), esc (s ++ [c]) = esc s ++ (if c = 0 then [0, 255] else [c])
  | [], c => by
    by_cases h : c = 0 <;> simp [esc, h]
  | x :: s, c => by
    rw [List.cons_append, esc, esc, esc_snoc s c]
    split <;> simp
end Go.Proofs.Qxb6615138a

import Derived.Lib.VarintDec
/-! THE FORMAT, with no Go in sight: a machine that reads a payload step by step. -/
namespace Go.Proofs.Qxb6616086aFmt
open Go

def uvAt (b : List UInt8) (p : Nat) : Option (Nat × Nat) :=
  if (Lib.uvarintDec (b.drop p)).2 ≤ 0 then none else some ((Lib.uvarintDec (b.drop p)).1, p + (Lib.uvarintDec (b.drop p)).2.toNat)

def fieldAt (b : List UInt8) (p : Nat) : Option (Nat × Nat) :=
  match uvAt b p with
  | none => none
  | some x => if b.length - x.2 < x.1 then none else some (x.2, x.2 + x.1)

def sub (b : List UInt8) (s e : Nat) : List UInt8 := (b.drop s).take (e - s)

/-- One change: key, value (none: nil), whether it deletes. -/
structure PChg where
  key : List UInt8
  val : Option (List UInt8)
  del : Bool
structure PTab where
  name : List UInt8
  drop : Bool
  cs : List PChg
/-- md: 0 between tables, 1 inside one, 2 at the end. -/
structure PSt where
  md : Nat
  ts : List PTab
  p : Nat
  t : Nat
  cnt : Nat
  bad : Bool

def tab0 : PTab := ⟨[], false, []⟩
def findT (ts : List PTab) (name : List UInt8) : Option Nat := ts.findIdx? fun t => t.name == name
def addT (ts : List PTab) (name : List UInt8) : List PTab :=
  match findT ts name with
  | some _ => ts
  | none => ts ++ [⟨name, false, []⟩]
def atT (ts : List PTab) (name : List UInt8) : Nat :=
  match findT ts name with
  | some i => i
  | none => ts.length
def setDrop (ts : List PTab) (t : Nat) : List PTab := ts.set t { ts.getD t tab0 with drop := true }
def addC (ts : List PTab) (t : Nat) (c : PChg) : List PTab := ts.set t { ts.getD t tab0 with cs := (ts.getD t tab0).cs ++ [c] }

def fin (x : PSt) (ts : List PTab) (bad : Bool) : PSt := { x with md := 2, ts := ts, bad := bad }

def stepOut (b : List UInt8) (x : PSt) : PSt :=
  if x.p < b.length then
    match fieldAt b x.p with
    | none => fin x (addT x.ts []) true
    | some f =>
      match uvAt b f.2 with
      | none => fin x (addT x.ts (sub b f.1 f.2)) true
      | some u => { x with md := 1, ts := addT x.ts (sub b f.1 f.2), t := atT x.ts (sub b f.1 f.2), cnt := u.1, p := u.2 }
  else fin x x.ts false

def stepIn (b : List UInt8) (x : PSt) : PSt :=
  if x.cnt = 0 then { x with md := 0 }
  else if b.length ≤ x.p then fin x x.ts true
  else if (b.getD x.p 0).toNat = 3 then { x with ts := setDrop x.ts x.t, p := x.p + 1, cnt := x.cnt - 1 }
  else match fieldAt b (x.p + 1) with
    | none =>
      if (b.getD x.p 0).toNat = 2 then fin x (addC x.ts x.t ⟨[], none, true⟩) true
      else if (b.getD x.p 0).toNat = 1 then fin x (addC x.ts x.t ⟨[], none, false⟩) true
      else fin x x.ts true
    | some f =>
      if (b.getD x.p 0).toNat = 2 then { x with ts := addC x.ts x.t ⟨sub b f.1 f.2, none, true⟩, p := f.2, cnt := x.cnt - 1 }
      else if (b.getD x.p 0).toNat = 1 then
        match fieldAt b f.2 with
        | none => fin x (addC x.ts x.t ⟨sub b f.1 f.2, none, false⟩) true
        | some g => { x with ts := addC x.ts x.t ⟨sub b f.1 f.2, some (sub b g.1 g.2), false⟩, p := g.2, cnt := x.cnt - 1 }
      else fin x x.ts true

def step (b : List UInt8) (x : PSt) : PSt := if x.md = 0 then stepOut b x else if x.md = 1 then stepIn b x else x

def iter (b : List UInt8) : Nat → PSt → PSt
  | 0, x => x
  | n + 1, x => iter b n (step b x)

def start : PSt := ⟨0, [], 0, 0, 0, false⟩
/-- The machine comes to x. -/
def Reach (b : List UInt8) (x : PSt) : Prop := ∃ n, iter b n start = x

theorem iter_add (b : List UInt8) : ∀ (n m : Nat) (x : PSt), iter b (n + m) x = iter b m (iter b n x)
  | 0, m, x => by rw [Nat.zero_add]; rfl
  | n + 1, m, x => by
    rw [show n + 1 + m = (n + m) + 1 by omega]
    exact iter_add b n m (step b x)

theorem Reach.start (b : List UInt8) : Reach b start := ⟨0, rfl⟩
theorem Reach.next {b : List UInt8} {x : PSt} (h : Reach b x) : Reach b (step b x) := by
  obtain ⟨n, hn⟩ := h
  exact ⟨n + 1, by rw [iter_add, hn]; rfl⟩
theorem Reach.out {b : List UInt8} {x : PSt} (h : Reach b x) (hm : x.md = 0) : Reach b (stepOut b x) := by
  have := h.next
  unfold step at this
  rwa [if_pos hm] at this
theorem Reach.inn {b : List UInt8} {x : PSt} (h : Reach b x) (hm : x.md = 1) : Reach b (stepIn b x) := by
  have := h.next
  unfold step at this
  rwa [if_neg (by omega), if_pos hm] at this

theorem iter_fin (b : List UInt8) : ∀ (n : Nat) (x : PSt), x.md = 2 → iter b n x = x
  | 0, x, _ => rfl
  | n + 1, x, h => by
    have e : step b x = x := by
      unfold step
      rw [if_neg (by omega), if_neg (by omega)]
    show iter b n (step b x) = x
    rw [e]
    exact iter_fin b n x h

/-- The machine has one end. -/
theorem Reach.unique {b : List UInt8} {x y : PSt} (hx : Reach b x) (hy : Reach b y) (h1 : x.md = 2) (h2 : y.md = 2) : x = y := by
  obtain ⟨n, hn⟩ := hx
  obtain ⟨m, hm⟩ := hy
  have e1 : iter b (n + m) Qxb6616086aFmt.start = x := by rw [iter_add, hn, iter_fin b m x h1]
  have e2 : iter b (n + m) Qxb6616086aFmt.start = y := by rw [Nat.add_comm, iter_add, hm, iter_fin b n y h2]
  rw [← e1, e2]

/-- What an end says. -/
def Ends (b : List UInt8) (ts : List PTab) (bad : Bool) : Prop := ∃ x, Reach b x ∧ x.md = 2 ∧ x.ts = ts ∧ x.bad = bad
theorem Ends.unique {b : List UInt8} {ts ts' : List PTab} {bad bad' : Bool} (h : Ends b ts bad) (h' : Ends b ts' bad') : ts = ts' ∧ bad = bad' := by
  obtain ⟨x, hx, h1, rfl, rfl⟩ := h
  obtain ⟨y, hy, h2, rfl, rfl⟩ := h'
  have e := hx.unique hy h1 h2
  subst e
  exact ⟨rfl, rfl⟩
theorem Reach.ends {b : List UInt8} {x y : PSt} {ts : List PTab} {bad : Bool} (h : Reach b x) (e : x = fin y ts bad) : Ends b ts bad := ⟨x, h, by rw [e]; rfl, by rw [e]; rfl, by rw [e]; rfl⟩

/-- Inside the payload: what is read lies within it. -/
theorem uvarintFrom_le : ∀ (l : List UInt8) (i acc : Nat), (Lib.uvarintFrom i acc l).2 ≤ (i : Int) + l.length
  | [], i, acc => by simp [Lib.uvarintFrom]
  | c :: r, i, acc => by
    unfold Lib.uvarintFrom
    split
    · simp; omega
    · split
      · split
        · simp; omega
        · simp; omega
      · have := uvarintFrom_le r (i + 1) (acc + c.toNat % 128 * 2 ^ (7 * i))
        simp only [List.length_cons]
        omega
theorem uvAt_le {b : List UInt8} {p n q : Nat} (hp : p ≤ b.length) (h : uvAt b p = some (n, q)) : p < q ∧ q ≤ b.length := by
  unfold uvAt at h
  split at h
  · cases h
  · have e := uvarintFrom_le (b.drop p) 0 0
    have e' : (Lib.uvarintDec (b.drop p)).2 ≤ (0 : Int) + (b.drop p).length := by simpa [Lib.uvarintDec] using e
    rw [List.length_drop] at e'
    simp only [Option.some.injEq, Prod.mk.injEq] at h
    omega
theorem uvAt_lt {b : List UInt8} {p n q : Nat} (h : uvAt b p = some (n, q)) : n < 18446744073709551616 := by
  unfold uvAt at h
  split at h
  · cases h
  · simp only [Option.some.injEq, Prod.mk.injEq] at h
    rw [← h.1]
    exact Lib.uvarintFrom_lt (b.drop p) 0 0 (by omega) (by decide)
theorem fieldAt_le {b : List UInt8} {p s e : Nat} (hp : p ≤ b.length) (h : fieldAt b p = some (s, e)) : p < s ∧ s ≤ e ∧ e ≤ b.length := by
  unfold fieldAt at h
  split at h
  · cases h
  · next x hx =>
    have := uvAt_le hp (n := x.1) (q := x.2) hx
    split at h
    · cases h
    · simp only [Option.some.injEq, Prod.mk.injEq] at h
      omega
end Go.Proofs.Qxb6616086aFmt

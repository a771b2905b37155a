import Derived.Test.Qxb6616487aIn
/-! THE VERSION LIST in memory, and the walk of find. -/
namespace Go.Proofs.Qxb6616487a
open Go.RowKit

/-- A version: the block of its writer, its writer's timestamp, its read timestamp. -/
structure Ver where
  p : Nat
  ts : Int
  rts : Int
/-- A block of versions: where its array lies, its capacity, the versions. -/
structure Blk where
  c : Nat
  cap : Nat
  vs : List Ver

def blkCell (vs : List Ver) (j : Nat) : Value :=
  match vs[j / 2]? with
  | some v => if j % 2 = 0 then .pointer (some ⟨v.p, 0, none⟩) else .int .i64 v.rts
  | none => if j % 2 = 0 then .pointer none else .int .i64 0
def outCell (bs : List Blk) (j : Nat) : Value :=
  match bs[j]? with
  | some b => .slice (some ⟨b.c, 0, none⟩) b.vs.length b.cap
  | none => .slice none 0 0

def cmpI (x y : Int) : Int := if x < y then -1 else if y < x then 1 else 0

theorem cmpI_lt {x y : Int} (h : x < y) : cmpI x y = -1 := by simp [cmpI, h]
theorem cmpI_ge {x y : Int} (h : y ≤ x) : 0 ≤ cmpI x y := by
  unfold cmpI
  rw [if_neg (by omega)]
  split <;> omega
theorem cmpI_gt {x y : Int} (h : y < x) : cmpI x y = 1 := by
  unfold cmpI
  rw [if_neg (by omega), if_pos h]
theorem cmpI_eq {x y : Int} (h1 : ¬ x < y) (h2 : ¬ y < x) : cmpI x y = 0 := by
  unfold cmpI
  rw [if_neg h1, if_neg h2]

set_option maxHeartbeats 400000 in
theorem compare_any (x y : Int) (w : World) : Calls Try.prog 56 #[.int .i64 x, .int .i64 y] w fun e w' => e = .returned (.int .i64 (cmpI x y)) ∧ w' = w := by
  by_cases h1 : x < y
  · have E : Hid (cmpI x y = -1) := cmpI_lt h1
    go_enter Try.func56, Try.ntmps56
    go_wp2
    go_ret
    exact ⟨ret_int E.out.symm, rfl⟩
  · by_cases h2 : y < x
    · have E : Hid (cmpI x y = 1) := cmpI_gt h2
      go_enter Try.func56, Try.ntmps56
      go_wp2
      go_ret
      exact ⟨ret_int E.out.symm, rfl⟩
    · have E : Hid (cmpI x y = 0) := cmpI_eq h1 h2
      go_enter Try.func56, Try.ntmps56
      go_wp2
      go_ret
      exact ⟨ret_int E.out.symm, rfl⟩

set_option maxHeartbeats 400000 in
theorem key1_any (c len cap p : Nat) (ts : Int) (w : World) (h0 : 0 < len) (hc : w.cell? ⟨c, 0, none⟩ = some (.pointer (some ⟨p, 0, none⟩))) (hp : w.cell? ⟨p, 1, none⟩ = some (.int .i64 ts)) :
    Calls Try.prog 49 #[.slice (some ⟨c, 0, none⟩) len cap] w fun e w' => e = .returned (.int .i64 ts) ∧ w' = w := by
  go_enter Try.func49, Try.ntmps49
  go_wp2
  go_ret
  exact ⟨rfl, rfl⟩

set_option maxHeartbeats 400000 in
theorem key2_any (p : Nat) (ts rts : Int) (w : World) (hp : w.cell? ⟨p, 1, none⟩ = some (.int .i64 ts)) :
    Calls Try.prog 51 #[.agg #[.pointer (some ⟨p, 0, none⟩), .int .i64 rts]] w fun e w' => e = .returned (.int .i64 ts) ∧ Below w.heap.size w w' := by
  have hlt := block_lt_of_cell hp
  simp only at hlt
  have hp2 : ∀ o, (w.alloc o).cell? ⟨p, 1, none⟩ = some (.int .i64 ts) := fun o => Lib.cell?_alloc_some o hp
  go_enter Try.func51, Try.ntmps51
  go_wp2
  go_ret
  exact ⟨rfl, (Below.refl _ _).alloc (Nat.le_refl _) _⟩

set_option maxHeartbeats 400000 in
theorem clo1_any (c len cap p g : Nat) (ts t : Int) (w : World) (h0 : 0 < len) (hg : w.cell? ⟨g, 0, none⟩ = some (.func (.func 49) #[] #[])) (hc : w.cell? ⟨c, 0, none⟩ = some (.pointer (some ⟨p, 0, none⟩))) (hp : w.cell? ⟨p, 1, none⟩ = some (.int .i64 ts)) :
    Calls Try.prog 55 #[.slice (some ⟨c, 0, none⟩) len cap, .int .i64 t, .pointer (some ⟨g, 0, none⟩)] w fun e w' => e = .returned (.int .i64 (cmpI ts t)) ∧ w' = w := by
  go_enter Try.func55, Try.ntmps55
  go_wp2_with (first
    | (go_at_call 49; refine (key1_any _ _ _ p ts _ h0 hc hp).mono ?_; rintro e w' ⟨rfl, rfl⟩)
    | (go_at_call 56; refine (compare_any _ _ _).mono ?_; rintro e w' ⟨rfl, rfl⟩))
  go_ret
  exact ⟨rfl, rfl⟩

set_option maxHeartbeats 400000 in
theorem clo2_any (p g : Nat) (rts ts t : Int) (w : World) (hg : w.cell? ⟨g, 0, none⟩ = some (.func (.func 51) #[] #[])) (hp : w.cell? ⟨p, 1, none⟩ = some (.int .i64 ts)) :
    Calls Try.prog 58 #[.agg #[.pointer (some ⟨p, 0, none⟩), .int .i64 rts], .int .i64 t, .pointer (some ⟨g, 0, none⟩)] w fun e w' => e = .returned (.int .i64 (cmpI ts t)) ∧ Below w.heap.size w w' := by
  have hlt := block_lt_of_cell hp
  have hlg := block_lt_of_cell hg
  simp only at hlt hlg
  have hp2 : ∀ o, (w.alloc o).cell? ⟨p, 1, none⟩ = some (.int .i64 ts) := fun o => Lib.cell?_alloc_some o hp
  have hg2 : ∀ o, (w.alloc o).cell? ⟨g, 0, none⟩ = some (.func (.func 51) #[] #[]) := fun o => Lib.cell?_alloc_some o hg
  go_enter Try.func58, Try.ntmps58
  go_wp2_with (first
    | (go_at_call 51; refine (key2_any p ts rts _ (hp2 _)).mono ?_; rintro e w1 ⟨rfl, hb1⟩)
    | (go_at_call 56; refine (compare_any _ _ _).mono ?_; rintro e w' ⟨rfl, rfl⟩))
  go_ret
  exact ⟨rfl, ((Below.refl _ w).alloc (Nat.le_refl _) _).trans (hb1.mono (by simp))⟩

/-- What the binary search hands back. -/
def Found (e : Ending) (b : Nat) : Prop := ∃ r : Bool, e = .returned (.tuple #[.int .i64 ((b : Int) + 1), .bool r])
theorem found {v : Value} {b : Nat} {r : Bool} (h : v = .tuple #[.int .i64 ((b : Int) + 1), .bool r]) : Found (.returned v) b := ⟨r, by rw [h]⟩

/-- Element i of the outer array: a block that is not empty, the first timestamp in it 'keys i'. -/
def Heads (w : World) (bV n : Nat) (keys : Nat → Int) : Prop :=
  ∀ i, i < n → ∃ c len cap p, w.cell? ⟨bV, i, none⟩ = some (.slice (some ⟨c, 0, none⟩) len cap) ∧ 0 < len ∧ w.cell? ⟨c, 0, none⟩ = some (.pointer (some ⟨p, 0, none⟩)) ∧ w.cell? ⟨p, 1, none⟩ = some (.int .i64 (keys i))

set_option maxHeartbeats 1000000 in
theorem search1_any (bV n capV g b : Nat) (ts : Int) (keys : Nat → Int) (w : World) (hn : n ≤ 65536) (hb : b < n)
    (hg : w.cell? ⟨g, 0, none⟩ = some (.func (.func 49) #[] #[])) (hcell : Heads w bV n keys) (hkey : ∀ i, i < n → (keys i ≤ ts ↔ i ≤ b)) :
    Calls Try.prog 54 #[.slice (some ⟨bV, 0, none⟩) n capV, .int .i64 (ts + 1), .func (.func 55) #[] #[.pointer (some ⟨g, 0, none⟩)]] w fun e w' => Found e b ∧ w' = w := by
  have HC : Hid (Heads w bV n keys) := hcell
  have HK : Hid (∀ i, i < n → (keys i ≤ ts ↔ i ≤ b)) := hkey
  have HG : Hid (w.cell? ⟨g, 0, none⟩ = some (.func (.func 49) #[] #[])) := hg
  clear hcell hkey hg
  go_enter Try.func54, Try.ntmps54
  go_wp2
  go_loop [9, 10, 11] (fun i j h => ∃ (x y : Nat), x ≤ b + 1 ∧ b + 1 ≤ y ∧ y ≤ n ∧ i = .int .i64 x ∧ j = .int .i64 y) (fun i j _ => (intOf j).toNat - (intOf i).toNat)
  case atStart => exact ⟨0, n, Nat.zero_le _, by omega, Nat.le_refl _, rfl, rfl⟩
  case round =>
    obtain ⟨x, y, hx, hy, hyn, rfl, rfl⟩ := hrel
    by_cases hlt : x < y
    · obtain ⟨c, len, cap, p, hc, h0, hc0, hp⟩ := HC.out ((x + y) / 2) (by omega)
      have HK1 := HK.out ((x + y) / 2) (by omega)
      have HC1 : Hid (w.cell? ⟨c, 0, none⟩ = some (.pointer (some ⟨p, 0, none⟩))) := hc0
      have HP1 : Hid (w.cell? ⟨p, 1, none⟩ = some (.int .i64 (keys ((x + y) / 2)))) := hp
      by_cases hle : (x + y) / 2 ≤ b
      · have hneg : cmpI (keys ((x + y) / 2)) (ts + 1) < 0 := by rw [cmpI_lt (by have := HK1.2 hle; omega)]; decide
        clear HK1 hc0 hp
        go_wp2_with (go_at_call 55; refine (clo1_any _ _ _ p _ (keys ((x + y) / 2)) _ _ h0 HG.out HC1.out HP1.out).mono ?_; rintro e w' ⟨rfl, rfl⟩)
        go_round
        case rel => exact ⟨(x + y) / 2 + 1, y, by omega, by omega, by omega, by go_num, rfl⟩
        case measure => simp [intOf]; omega
      · have hpos : ¬ cmpI (keys ((x + y) / 2)) (ts + 1) < 0 := by
          have : ¬ keys ((x + y) / 2) ≤ ts := fun h => hle (HK1.1 h)
          have := cmpI_ge (x := keys ((x + y) / 2)) (y := ts + 1) (by omega)
          omega
        clear HK1 hc0 hp
        go_wp2_with (go_at_call 55; refine (clo1_any _ _ _ p _ (keys ((x + y) / 2)) _ _ h0 HG.out HC1.out HP1.out).mono ?_; rintro e w' ⟨rfl, rfl⟩)
        go_round
        case rel => exact ⟨x, (x + y) / 2, by omega, by omega, by omega, rfl, by go_num⟩
        case measure => simp [intOf]; omega
    · have ex : x = b + 1 := by omega
      have ey : y = b + 1 := by omega
      subst ex ey
      by_cases hn1 : b + 1 < n
      · obtain ⟨c, len, cap, p, hc, h0, hc0, hp⟩ := HC.out (b + 1) hn1
        have HC1 : Hid (w.cell? ⟨c, 0, none⟩ = some (.pointer (some ⟨p, 0, none⟩))) := hc0
        have HP1 : Hid (w.cell? ⟨p, 1, none⟩ = some (.int .i64 (keys (b + 1)))) := hp
        clear hc0 hp
        go_wp2_with (go_at_call 55; refine (clo1_any _ _ _ p _ (keys (b + 1)) _ _ h0 HG.out HC1.out HP1.out).mono ?_; rintro e w' ⟨rfl, rfl⟩)
        all_goals
          go_ret2
          exact ⟨⟨_, rfl⟩, rfl⟩
      · go_wp2
        go_ret2
        exact ⟨⟨_, rfl⟩, rfl⟩

/-- Version i of a block's array: its writer's timestamp is 'keys i'. -/
def Vers (w : World) (c n : Nat) (keys : Nat → Int) : Prop :=
  ∀ i, i < n → ∃ p rts, w.cell? ⟨c, i * 2, none⟩ = some (.pointer (some ⟨p, 0, none⟩)) ∧ w.cell? ⟨c, i * 2 + 1, none⟩ = some (.int .i64 rts) ∧ w.cell? ⟨p, 1, none⟩ = some (.int .i64 (keys i))

theorem cell_below {w w' : World} (hb : Below w.heap.size w w') {a : Addr} {v : Value} (h : w.cell? a = some v) : w'.cell? a = some v := by
  rw [hb.cell (block_lt_of_cell h)]; exact h

theorem Vers.below {w w' : World} {c n : Nat} {keys : Nat → Int} (h : Vers w c n keys) (hb : Below w.heap.size w w') : Vers w' c n keys := fun i hi => by
  obtain ⟨p, rts, h1, h2, h3⟩ := h i hi
  exact ⟨p, rts, cell_below hb h1, cell_below hb h2, cell_below hb h3⟩

set_option maxHeartbeats 1000000 in
theorem search2_any (c n cap g b : Nat) (ts : Int) (keys : Nat → Int) (w : World) (hn : n ≤ 65536) (hb : b < n)
    (hg : w.cell? ⟨g, 0, none⟩ = some (.func (.func 51) #[] #[])) (hcell : Vers w c n keys) (hkey : ∀ i, i < n → (keys i ≤ ts ↔ i ≤ b)) :
    Calls Try.prog 57 #[.slice (some ⟨c, 0, none⟩) n cap, .int .i64 (ts + 1), .func (.func 58) #[] #[.pointer (some ⟨g, 0, none⟩)]] w fun e w' => Found e b ∧ Below w.heap.size w w' := by
  have HC : Hid (Vers w c n keys) := hcell
  have HK : Hid (∀ i, i < n → (keys i ≤ ts ↔ i ≤ b)) := hkey
  have HG : Hid (w.cell? ⟨g, 0, none⟩ = some (.func (.func 51) #[] #[])) := hg
  clear hcell hkey hg
  go_enter Try.func57, Try.ntmps57
  go_wp2
  go_loopw [9, 10, 11] (fun i j h wr => ∃ (x y : Nat), x ≤ b + 1 ∧ b + 1 ≤ y ∧ y ≤ n ∧ i = .int .i64 x ∧ j = .int .i64 y ∧ Below w.heap.size w wr) (fun i j _ _ => (intOf j).toNat - (intOf i).toNat)
  case atStart => exact ⟨0, n, Nat.zero_le _, by omega, Nat.le_refl _, rfl, rfl, Below.refl _ _⟩
  case round =>
    obtain ⟨x, y, hx, hy, hyn, rfl, rfl, hbw⟩ := hrel
    have HG1 : Hid (wr.cell? ⟨g, 0, none⟩ = some (.func (.func 51) #[] #[])) := cell_below hbw HG.out
    by_cases hlt : x < y
    · obtain ⟨p, rts, hc, hc2, hp⟩ := (HC.out.below hbw) ((x + y) / 2) (by omega)
      have HK1 := HK.out ((x + y) / 2) (by omega)
      have HP1 : Hid (wr.cell? ⟨p, 1, none⟩ = some (.int .i64 (keys ((x + y) / 2)))) := hp
      by_cases hle : (x + y) / 2 ≤ b
      · have hneg : cmpI (keys ((x + y) / 2)) (ts + 1) < 0 := by rw [cmpI_lt (by have := HK1.2 hle; omega)]; decide
        clear HK1 hp
        go_wp2_with (go_at_call 58; refine (clo2_any p _ rts (keys ((x + y) / 2)) _ _ HG1.out HP1.out).mono ?_; rintro e w' ⟨rfl, hb1⟩)
        go_roundw
        case rel => exact ⟨(x + y) / 2 + 1, y, by omega, by omega, by omega, by go_num, rfl, hbw.trans (hb1.mono hbw.size)⟩
        case measure => simp [intOf]; omega
      · have hpos : ¬ cmpI (keys ((x + y) / 2)) (ts + 1) < 0 := by
          have : ¬ keys ((x + y) / 2) ≤ ts := fun h => hle (HK1.1 h)
          have := cmpI_ge (x := keys ((x + y) / 2)) (y := ts + 1) (by omega)
          omega
        clear HK1 hp
        go_wp2_with (go_at_call 58; refine (clo2_any p _ rts (keys ((x + y) / 2)) _ _ HG1.out HP1.out).mono ?_; rintro e w' ⟨rfl, hb1⟩)
        go_roundw
        case rel => exact ⟨x, (x + y) / 2, by omega, by omega, by omega, rfl, by go_num, hbw.trans (hb1.mono hbw.size)⟩
        case measure => simp [intOf]; omega
    · have ex : x = b + 1 := by omega
      have ey : y = b + 1 := by omega
      subst ex ey
      by_cases hn1 : b + 1 < n
      · obtain ⟨p, rts, hc, hc2, hp⟩ := (HC.out.below hbw) (b + 1) hn1
        have HP1 : Hid (wr.cell? ⟨p, 1, none⟩ = some (.int .i64 (keys (b + 1)))) := hp
        clear hp
        go_wp2_with (go_at_call 58; refine (clo2_any p _ rts (keys (b + 1)) _ _ HG1.out HP1.out).mono ?_; rintro e w' ⟨rfl, hb1⟩)
        all_goals
          go_ret2
          exact ⟨⟨_, rfl⟩, hbw.trans (hb1.mono hbw.size)⟩
      · go_wp2
        go_ret2
        exact ⟨⟨_, rfl⟩, hbw⟩

set_option maxHeartbeats 400000 in
theorem last1_any (bV n capV b : Nat) (ts : Int) (keys : Nat → Int) (w : World) (hn : n ≤ 65536) (hb : b < n) (ht0 : -9223372036854775808 ≤ ts) (ht : ts < 9223372036854775807)
    (hcell : Heads w bV n keys) (hkey : ∀ i, i < n → (keys i ≤ ts ↔ i ≤ b)) :
    Calls Try.prog 48 #[.slice (some ⟨bV, 0, none⟩) n capV, .int .i64 ts, .func (.func 49) #[] #[]] w fun e w' => e = .returned (.int .i64 b) ∧ Below w.heap.size w w' := by
  have HC : Hid (Heads (w.alloc (.cells #[.func (.func 49) #[] #[]] 105)) bV n keys) := fun i hi => by
    obtain ⟨c, len, cap, p, h1, h2, h3, h4⟩ := hcell i hi
    exact ⟨c, len, cap, p, Lib.cell?_alloc_some _ h1, h2, Lib.cell?_alloc_some _ h3, Lib.cell?_alloc_some _ h4⟩
  have HK : Hid (∀ i, i < n → (keys i ≤ ts ↔ i ≤ b)) := hkey
  clear hcell hkey
  go_enter Try.func48, Try.ntmps48
  go_wp2_with fail
  refine (search1_any bV n capV w.heap.size b ts keys _ hn hb (by simp) HC.out HK.out).mono ?_
  rintro e w1 ⟨⟨r, rfl⟩, rfl⟩
  go_wp2
  go_ret
  exact ⟨ret_int (by omega), (Below.refl _ _).alloc (Nat.le_refl _) _⟩

set_option maxHeartbeats 400000 in
theorem last2_any (c n cap b : Nat) (ts : Int) (keys : Nat → Int) (w : World) (hn : n ≤ 65536) (hb : b < n) (ht0 : -9223372036854775808 ≤ ts) (ht : ts < 9223372036854775807)
    (hcell : Vers w c n keys) (hkey : ∀ i, i < n → (keys i ≤ ts ↔ i ≤ b)) :
    Calls Try.prog 50 #[.slice (some ⟨c, 0, none⟩) n cap, .int .i64 ts, .func (.func 51) #[] #[]] w fun e w' => e = .returned (.int .i64 b) ∧ Below w.heap.size w w' := by
  have HC : Hid (Vers (w.alloc (.cells #[.func (.func 51) #[] #[]] 99)) c n keys) := hcell.below ((Below.refl _ _).alloc (Nat.le_refl _) _)
  have HK : Hid (∀ i, i < n → (keys i ≤ ts ↔ i ≤ b)) := hkey
  clear hcell hkey
  go_enter Try.func50, Try.ntmps50
  go_wp2_with fail
  refine (search2_any c n cap w.heap.size b ts keys _ hn hb (by simp) HC.out HK.out).mono ?_
  rintro e w1 ⟨⟨r, rfl⟩, hb1⟩
  go_wp2
  go_ret
  exact ⟨ret_int (by omega), ((Below.refl _ w).alloc (Nat.le_refl _) _).trans (hb1.mono (by simp))⟩
end Go.Proofs.Qxb6616487a

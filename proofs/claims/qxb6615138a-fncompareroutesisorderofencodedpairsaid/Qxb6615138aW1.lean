import Derived.Test.Qxb6615138aRows
import Derived.Test.Qxb6615138aPlain
import Derived.WalkKit
import Derived.WalkSpells
import Derived.WalkLawsBesides
import Derived.Deep.QuietTactic
import Derived.BigQuiet
import Derived.Deep.RegionHeld
/-! THE WALKS of the comparison of routes. -/
namespace Go.Proofs.Qxb6615138a
open Go.RowKit

theorem ret_int {k : IntKind} {a b : Int} (h : a = b) : Ending.returned (.int k a) = .returned (.int k b) := by rw [h]

theorem less_iff : ∀ a b : List UInt8, Op.bytesLess a b = true ↔ cmpL a b = -1
  | [], [] => by simp [Op.bytesLess, cmpL]
  | [], _ :: _ => by simp [Op.bytesLess, cmpL]
  | _ :: _, [] => by simp [Op.bytesLess, cmpL]
  | x :: xs, y :: ys => by
    have ih := less_iff xs ys
    rcases u8_cases x y with h | h | h
    · rw [cmpL_lt h]; simp [Op.bytesLess, h]
    · subst h; rw [cmpL_eq, ← ih]; simp [Op.bytesLess]
    · rw [cmpL_gt h]
      have h1 := u8_asymm h
      have h2 : x ≠ y := fun q => by subst q; exact UInt8.lt_irrefl x h
      simp [Op.bytesLess, h1, h2]

/-- The order of two texts. -/
def cmpS (a b : ByteArray) : Int := cmpL a.toList b.toList

theorem cmpS_neg {a b : ByteArray} (h : Op.bytesLess a.toList b.toList = true) : cmpS a b = -1 := (less_iff _ _).1 h
theorem cmpS_pos {a b : ByteArray} (h : Op.bytesLess a.toList b.toList = false) (q : (!a.toList == b.toList) = true) : cmpS a b = 1 := by
  have h1 : ¬ cmpL a.toList b.toList = -1 := fun e => by rw [(less_iff _ _).2 e] at h; cases h
  have h2 : ¬ cmpL a.toList b.toList = 0 := fun e => by rw [cmpL_zero _ _ e] at q; simp at q
  have := cmpL_range a.toList b.toList
  unfold cmpS
  omega
theorem cmpS_nil {a b : ByteArray} (q : (!a.toList == b.toList) = false) : cmpS a b = 0 := by
  have e : a.toList = b.toList := by simpa using q
  unfold cmpS
  rw [e, cmpL_self]

set_option maxHeartbeats 400000 in
theorem compare_any (a b : ByteArray) (w : World) : Calls Try.prog 13 #[.string a, .string b] w fun e w' => e = .returned (.int .i64 (cmpS a b)) ∧ w' = w := by
  go_enter Try.func13, Try.ntmps13
  go_wp2
  · have h : Op.bytesLess a.toList b.toList = true := by assumption
    go_ret
    exact ⟨ret_int (cmpS_neg h).symm, rfl⟩
  · have h : Op.bytesLess a.toList b.toList = false := by assumption
    have q : (!a.toList == b.toList) = true := by assumption
    go_ret
    exact ⟨ret_int (cmpS_pos h q).symm, rfl⟩
  · have q : (!a.toList == b.toList) = false := by assumption
    go_ret
    exact ⟨ret_int (cmpS_nil q).symm, rfl⟩

def orI (x y : Int) : Int := if x ≠ 0 then x else y

set_option maxHeartbeats 400000 in
theorem or_any (g : Nat) (x y : Int) (w : World) (hx : w.cell? ⟨g, 0, none⟩ = some (.int .i64 x)) (hy : w.cell? ⟨g, 1, none⟩ = some (.int .i64 y)) :
    Calls Try.prog 12 #[.slice (some ⟨g, 0, none⟩) 2 2] w fun e w' => e = .returned (.int .i64 (orI x y)) ∧ w' = w := by
  go_enter Try.func12, Try.ntmps12
  go_wp2
  go_loop [8] (fun i => ∃ k : Nat, k ≤ 2 ∧ i = .int .i64 k ∧ (0 < k → x = 0) ∧ (1 < k → y = 0)) (fun i => 2 - (intOf i).toNat)
  case atStart => exact ⟨0, by omega, rfl, fun h => by omega, fun h => by omega⟩
  case round =>
    obtain ⟨k, hk, rfl, z0, z1⟩ := hrel
    have HZ0 : Hid (0 < k → x = 0) := z0
    have HZ1 : Hid (1 < k → y = 0) := z1
    clear z0 z1
    rcases (show k = 0 ∨ k = 1 ∨ k = 2 by omega) with rfl | rfl | rfl
    · by_cases h : (x == 0) = true
      · have hx0 : x = 0 := by simpa using h
        subst hx0
        go_wp2
        go_round
        case rel => exact ⟨1, by omega, rfl, fun _ => by simp, fun h => by omega⟩
        case measure => simp [intOf]
      · have h : (x == 0) = false := by simpa using h
        have hne : (x != 0) = true := by rw [bne, h]; rfl
        go_wp2
        go_ret
        exact ⟨ret_int (by unfold orI; rw [if_pos (by simpa using h)]), rfl⟩
    · have hx0 := HZ0.out (by omega)
      subst hx0
      by_cases h : (y == 0) = true
      · have hy0 : y = 0 := by simpa using h
        subst hy0
        go_wp2
        go_round
        case rel => exact ⟨2, by omega, rfl, fun _ => by simp, fun _ => by simp⟩
        case measure => simp [intOf]
      · have h : (y == 0) = false := by simpa using h
        have hne : (y != 0) = true := by rw [bne, h]; rfl
        go_wp2
        go_ret
        exact ⟨ret_int (by unfold orI; rw [if_neg (by omega)]), rfl⟩
    · have hx0 := HZ0.out (by omega)
      have hy0 := HZ1.out (by omega)
      subst hx0 hy0
      go_wp2
      go_ret
      exact ⟨ret_int rfl, rfl⟩

/-- The order of two routes. -/
def cmpRS (ar ad br bd : ByteArray) : Int := cmpR ar.toList ad.toList br.toList bd.toList
theorem orI_cmp (ar ad br bd : ByteArray) : orI (cmpS ar br) (cmpS ad bd) = cmpRS ar ad br bd := rfl

theorem cell_below {w w' : World} (hb : Below w.heap.size w w') {a : Addr} {v : Value} (h : w.cell? a = some v) : w'.cell? a = some v := by
  rw [hb.cell (block_lt_of_cell h)]; exact h

theorem cell_alloc {w : World} {a : Addr} {v : Value} (o : Obj) (h : w.cell? a = some v) : (w.alloc o).cell? a = some v := cell_below ((Below.refl _ _).alloc (Nat.le_refl _) _) h

set_option maxHeartbeats 1000000 in
theorem routes_any (ar ad br bd : ByteArray) (w : World) :
    Calls Try.prog 11 #[.agg #[.string ar, .string ad], .agg #[.string br, .string bd]] w fun e w' => e = .returned (.int .i64 (cmpRS ar ad br bd)) ∧ Below w.heap.size w w' := by
  go_enter Try.func11, Try.ntmps11
  go_wp2_with fail
  have S0 : ((w.alloc (.cells #[.string ar, .string ad] 31)).alloc (.cells #[.string br, .string bd] 31)).cell? ⟨w.heap.size, 0, none⟩ = some (.string ar) ∧ ((w.alloc (.cells #[.string ar, .string ad] 31)).alloc (.cells #[.string br, .string bd] 31)).cell? ⟨w.heap.size, 1, none⟩ = some (.string ad) ∧ ((w.alloc (.cells #[.string ar, .string ad] 31)).alloc (.cells #[.string br, .string bd] 31)).cell? ⟨w.heap.size + 1, 0, none⟩ = some (.string br) ∧ ((w.alloc (.cells #[.string ar, .string ad] 31)).alloc (.cells #[.string br, .string bd] 31)).cell? ⟨w.heap.size + 1, 1, none⟩ = some (.string bd) := by
    refine ⟨?_, ?_, ?_, ?_⟩
    · rw [cell_of_row _ _ _ _ _ _ (heap_alloc2_old w _ _)]; rfl
    · rw [cell_of_row _ _ _ _ _ _ (heap_alloc2_old w _ _)]; rfl
    · rw [cell_of_row _ _ _ _ _ _ (heap_alloc2_new w _ _)]; rfl
    · rw [cell_of_row _ _ _ _ _ _ (heap_alloc2_new w _ _)]; rfl
  have L0 : Below w.heap.size w ((w.alloc (.cells #[.string ar, .string ad] 31)).alloc (.cells #[.string br, .string bd] 31)) := ((Below.refl _ w).alloc (Nat.le_refl _) _).alloc (by simp) _
  refine wp_region_held (S := fun wz => wz.cell? ⟨w.heap.size, 0, none⟩ = some (.string ar) ∧ wz.cell? ⟨w.heap.size, 1, none⟩ = some (.string ad) ∧ wz.cell? ⟨w.heap.size + 1, 0, none⟩ = some (.string br) ∧ wz.cell? ⟨w.heap.size + 1, 1, none⟩ = some (.string bd)) (by kernel_rfl) ?_
  change wpAnyH _ _ _ _ _ _ _ _ (World.drew _)
  refine wpAnyH_take (i := 0) (v := .pointer (some ⟨w.heap.size, 0, none⟩)) rfl (by kernel_rfl) (by kernel_rfl) (by kernel_rfl) (fun _ _ _ h => h) (.inl ⟨by rfl, fun wz hS => by obtain ⟨z0, z1, z2, z3⟩ := hS; go_simp⟩) S0 ?_
  refine wpAnyH_take (i := 1) (v := .string ar) rfl (by kernel_rfl) (by kernel_rfl) (by kernel_rfl) (fun _ _ _ h => h) (.inl ⟨by rfl, fun wz hS => by obtain ⟨z0, z1, z2, z3⟩ := hS; go_simp⟩) S0 ?_
  refine wpAnyH_take (i := 2) (v := .pointer (some ⟨w.heap.size + 1, 0, none⟩)) rfl (by kernel_rfl) (by kernel_rfl) (by kernel_rfl) (fun _ _ _ h => h) (.inl ⟨by rfl, fun wz hS => by obtain ⟨z0, z1, z2, z3⟩ := hS; go_simp⟩) S0 ?_
  refine wpAnyH_take (i := 3) (v := .string br) rfl (by kernel_rfl) (by kernel_rfl) (by kernel_rfl) (fun _ _ _ h => h) (.inl ⟨by rfl, fun wz hS => by obtain ⟨z0, z1, z2, z3⟩ := hS; go_simp⟩) S0 ?_
  refine wpAnyH_take (i := 5) (v := .pointer (some ⟨w.heap.size, 1, none⟩)) rfl (by kernel_rfl) (by kernel_rfl) (by kernel_rfl) (fun _ _ _ h => h) (.inl ⟨by rfl, fun wz hS => by obtain ⟨z0, z1, z2, z3⟩ := hS; go_simp⟩) S0 ?_
  refine wpAnyH_take (i := 6) (v := .string ad) rfl (by kernel_rfl) (by kernel_rfl) (by kernel_rfl) (fun _ _ _ h => h) (.inl ⟨by rfl, fun wz hS => by obtain ⟨z0, z1, z2, z3⟩ := hS; go_simp⟩) S0 ?_
  refine wpAnyH_take (i := 7) (v := .pointer (some ⟨w.heap.size + 1, 1, none⟩)) rfl (by kernel_rfl) (by kernel_rfl) (by kernel_rfl) (fun _ _ _ h => h) (.inl ⟨by rfl, fun wz hS => by obtain ⟨z0, z1, z2, z3⟩ := hS; go_simp⟩) S0 ?_
  refine wpAnyH_take (i := 8) (v := .string bd) rfl (by kernel_rfl) (by kernel_rfl) (by kernel_rfl) (fun _ _ _ h => h) (.inl ⟨by rfl, fun wz hS => by obtain ⟨z0, z1, z2, z3⟩ := hS; go_simp⟩) S0 ?_
  refine wpAnyH_all (rs := [4]) (by kernel_rfl) (by simp) ?_
  intro z hz
  obtain rfl : z = 4 := by simpa using hz
  clear hz
  refine wpOp_step rfl (fun K hK => ?_)
  go_simp
  refine (compare_any ar br _).mono ?_
  rintro e w' ⟨rfl, ew⟩
  subst w'
  refine hK _ _ ⟨S0, ?_⟩
  clear hK K
  refine wpAnyH_all (rs := [9]) (by kernel_rfl) (by simp) ?_
  intro z hz
  obtain rfl : z = 9 := by simpa using hz
  clear hz
  refine wpOp_step rfl (fun K hK => ?_)
  go_simp
  refine (compare_any ad bd _).mono ?_
  rintro e w' ⟨rfl, ew⟩
  subst w'
  refine hK _ _ ⟨S0, ?_⟩
  clear hK K
  refine wpAnyH_all (rs := [10]) (by kernel_rfl) (by simp) ?_
  intro z hz
  obtain rfl : z = 10 := by simpa using hz
  clear hz
  refine wpOp_step rfl (fun K hK => ?_)
  go_simp
  have S1 : _ ∧ _ ∧ _ ∧ _ := ⟨cell_alloc (.cells #[.int .i64 (cmpS ar br), .int .i64 (cmpS ad bd)] 3) S0.1, cell_alloc (.cells #[.int .i64 (cmpS ar br), .int .i64 (cmpS ad bd)] 3) S0.2.1, cell_alloc (.cells #[.int .i64 (cmpS ar br), .int .i64 (cmpS ad bd)] 3) S0.2.2.1, cell_alloc (.cells #[.int .i64 (cmpS ar br), .int .i64 (cmpS ad bd)] 3) S0.2.2.2⟩
  refine hK _ _ ⟨S1, ?_⟩
  clear hK K
  refine wpAnyH_all (rs := [11]) (by kernel_rfl) (by simp) ?_
  intro z hz
  obtain rfl : z = 11 := by simpa using hz
  clear hz
  refine wpOp_step rfl (fun K hK => ?_)
  go_simp
  refine (or_any (w.heap.size + 1 + 1) (cmpS ar br) (cmpS ad bd) _ ?_ ?_).mono ?_
  · have h2 := heap_alloc2_new (w.alloc (.cells #[.string ar, .string ad] 31)) (.cells #[.string br, .string bd] 31) (.cells #[.int .i64 (cmpS ar br), .int .i64 (cmpS ad bd)] 3)
    simp only [World.size_alloc] at h2
    show World.cell? _ _ = _
    rw [World.cell?_drew, cell_of_row _ _ _ _ _ _ h2]; rfl
  · have h2 := heap_alloc2_new (w.alloc (.cells #[.string ar, .string ad] 31)) (.cells #[.string br, .string bd] 31) (.cells #[.int .i64 (cmpS ar br), .int .i64 (cmpS ad bd)] 3)
    simp only [World.size_alloc] at h2
    show World.cell? _ _ = _
    rw [World.cell?_drew, cell_of_row _ _ _ _ _ _ h2]; rfl
  rintro e w' ⟨rfl, ew⟩
  subst w'
  refine hK _ _ ⟨S1, ?_⟩
  clear hK K
  refine wpAnyH_all (rs := [12]) (by kernel_rfl) (by simp) ?_
  intro z hz
  obtain rfl : z = 12 := by simpa using hz
  clear hz
  refine wpOp_step rfl (fun K hK => ?_)
  go_simp
  refine hK _ _ ⟨S1, ?_⟩
  clear hK K
  refine wpAnyH_done (by kernel_rfl) ?_ _
  go_wp2
  go_ret
  exact ⟨ret_int (orI_cmp ar ad br bd), (L0.alloc L0.size _).drew⟩

set_option maxHeartbeats 400000 in
theorem zzRoutes_any (ar ad br bd : ByteArray) (w : World) :
    Calls Try.prog 8 #[.string ar, .string ad, .string br, .string bd] w fun e w' => e = .returned (.int .i64 (cmpRS ar ad br bd)) ∧ Below w.heap.size w w' := by
  go_enter Try.func8, Try.ntmps8
  go_wp2_with (go_at_call 11; refine (routes_any ar ad br bd _).mono ?_; rintro e w' ⟨rfl, hb⟩)
  go_ret
  exact ⟨rfl, hb⟩
end Go.Proofs.Qxb6615138a

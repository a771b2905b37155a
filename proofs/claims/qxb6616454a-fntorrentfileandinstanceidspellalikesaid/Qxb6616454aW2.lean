import Derived.Test.Qxb6616454aW1
/-! THE WALKS of the three comparisons. -/
namespace Go.Proofs.Qxb6616454a
open Go.RowKit

theorem ret_int {k : IntKind} {a b : Int} (h : a = b) : Ending.returned (.int k a) = .returned (.int k b) := by rw [h]

/-- What zzCompareStrings answers. -/
def cmpS (a b : ByteArray) : Int := lexCmp (nums a.data.toList) (nums b.data.toList)

theorem nums_at (a : ByteArray) (k : Nat) (h : k < a.size) (h' : k < (nums a.data.toList).length) : (nums a.data.toList)[k] = (a[k].toNat : Int) := by
  simp [nums]; rfl

theorem cmpS_step (a b : ByteArray) (k : Nat) (ha : k < a.size) (hb : k < b.size) :
    lexCmp ((nums a.data.toList).drop k) ((nums b.data.toList).drop k) = if (a[k].toNat : Int) < b[k].toNat then -1 else if (b[k].toNat : Int) < a[k].toNat then 1 else lexCmp ((nums a.data.toList).drop (k + 1)) ((nums b.data.toList).drop (k + 1)) := by
  have h1 : k < (nums a.data.toList).length := by rw [nums_length]; exact ha
  have h2 : k < (nums b.data.toList).length := by rw [nums_length]; exact hb
  rw [lexCmp_drop _ _ _ h1 h2, nums_at a k ha, nums_at b k hb]

theorem cmpS_end (a b : ByteArray) (k : Nat) (ha : a.size ≤ k) (hb : b.size ≤ k) : lexCmp ((nums a.data.toList).drop k) ((nums b.data.toList).drop k) = 0 := by
  have e1 : a.data.toList.length = a.size := rfl
  have e2 : b.data.toList.length = b.size := rfl
  rw [List.drop_eq_nil_of_le (by rw [nums_length]; omega), List.drop_eq_nil_of_le (by rw [nums_length]; omega)]
  rfl

set_option maxHeartbeats 400000 in
theorem cmpStrings (a b : ByteArray) (N : Nat) (w : World) (ha : a.size = N) (hb : b.size = N) (hN : N ≤ 1000) :
    Calls Try.prog 7 #[.string a, .string b] w fun e w' => e = .returned (.int .i64 (cmpS a b)) ∧ ∃ n, w' = w.drewN n := by
  go_enter Try.func7, Try.ntmps7
  go_wp2
  go_loopw [6] (fun i wr => ∃ k n : Nat, k ≤ N ∧ i = .int .i64 k ∧ wr = w.drewN n ∧ Hid (cmpS a b = lexCmp ((nums a.data.toList).drop k) ((nums b.data.toList).drop k))) (fun i _ => N - (intOf i).toNat)
  case atStart => exact ⟨0, 0, Nat.zero_le _, rfl, rfl, rfl⟩
  case round =>
    obtain ⟨k, n, hk, rfl, rfl, HC⟩ := hrel
    by_cases hlt : k < N
    · have hka : k < a.size := by omega
      have hkb : k < b.size := by omega
      have HS : Hid (cmpS a b = if (a[k].toNat : Int) < b[k].toNat then -1 else if (b[k].toNat : Int) < a[k].toNat then 1 else lexCmp ((nums a.data.toList).drop (k + 1)) ((nums b.data.toList).drop (k + 1))) := HC.out.trans (cmpS_step a b k hka hkb)
      clear HC
      by_cases c1 : (a[k].toNat : Int) < b[k].toNat
      · go_wp2
        go_quiet (fail)
        go_wp2
        go_ret
        exact ⟨ret_int (by rw [HS.out, if_pos c1]), _, World.drewN_drewN _ _ _⟩
      · by_cases c2 : (b[k].toNat : Int) < a[k].toNat
        · go_wp2
          go_quiet (fail)
          go_wp2
          go_quiet (fail)
          go_wp2
          go_ret
          exact ⟨ret_int (by rw [HS.out, if_neg (by omega), if_pos c2]), _, by rw [World.drewN_drewN, World.drewN_drewN]⟩
        · go_wp2
          go_quiet (fail)
          go_wp2
          go_quiet (fail)
          go_wp2
          go_roundw
          case rel => exact ⟨k + 1, _, by omega, by go_num, rfl, HS.out.trans (by rw [if_neg (by omega), if_neg (by omega)])⟩
          case measure => simp [intOf]; omega
    · go_wp2
      go_ret
      exact ⟨ret_int (by rw [HC.out, cmpS_end a b k (by omega) (by omega)]), _, rfl⟩


set_option maxHeartbeats 400000 in
theorem cmp32 (xs ys : List Int) (w : World) (hx : xs.length = 32) (hy : ys.length = 32) (hrx : ∀ i, i < 32 → 0 ≤ xs.getD i 0 ∧ xs.getD i 0 < 256) (hry : ∀ i, i < 32 → 0 ≤ ys.getD i 0 ∧ ys.getD i 0 < 256) :
    Calls Try.prog 12 #[.agg (cu8 xs), .agg (cu8 ys)] w fun e w' => e = .returned (.int .i64 (lexCmp xs ys)) ∧ Below w.heap.size w w' := by
  have HX : Hid (xs.length = 32) := hx
  have HY : Hid (ys.length = 32) := hy
  have HRX : Hid (∀ i, i < 32 → 0 ≤ xs.getD i 0 ∧ xs.getD i 0 < 256) := hrx
  have HRY : Hid (∀ i, i < 32 → 0 ≤ ys.getD i 0 ∧ ys.getD i 0 < 256) := hry
  clear hx hy hrx hry
  go_enter Try.func12, Try.ntmps12
  go_wp2
  go_loopw [5] (fun i wr => ∃ k n : Nat, k ≤ 32 ∧ i = .int .i64 k ∧ wr = ((w.alloc (.cells (cu8 xs) 30)).alloc (.cells (cu8 ys) 30)).drewN n ∧ Hid (lexCmp xs ys = lexCmp (xs.drop k) (ys.drop k))) (fun i _ => 32 - (intOf i).toNat)
  case atStart => exact ⟨0, 0, Nat.zero_le _, rfl, rfl, rfl⟩
  case round =>
    obtain ⟨k, n, hk, rfl, rfl, HC⟩ := hrel
    have hbelow : ∀ m, Below w.heap.size w (((w.alloc (.cells (cu8 xs) 30)).alloc (.cells (cu8 ys) 30)).drewN m) := fun m => below_drewN ((((Below.refl _ w).alloc (Nat.le_refl _) _).alloc (by simp) _)) m
    by_cases hlt : k < 32
    · have hka : k < xs.length := by rw [HX.out]; omega
      have hkb : k < ys.length := by rw [HY.out]; omega
      obtain ⟨x, ex⟩ : ∃ x, x = xs.getD k 0 := ⟨_, rfl⟩
      obtain ⟨y, ey⟩ : ∃ y, y = ys.getD k 0 := ⟨_, rfl⟩
      have hcx : ((w.alloc (.cells (cu8 xs) 30)).alloc (.cells (cu8 ys) 30)).cell? ⟨w.heap.size, k, none⟩ = some (.int .u8 x) := by
        rw [ex, cell_of_row _ _ _ _ _ _ (heap_alloc2_old w _ _), cu8_at xs k hka]
      have hcy : ((w.alloc (.cells (cu8 xs) 30)).alloc (.cells (cu8 ys) 30)).cell? ⟨w.heap.size + 1, k, none⟩ = some (.int .u8 y) := by
        rw [ey, cell_of_row _ _ _ _ _ _ (heap_alloc2_new w _ _), cu8_at ys k hkb]
      have bx := HRX.out k hlt
      have by' := HRY.out k hlt
      rw [← ex] at bx
      rw [← ey] at by'
      have HS : Hid (lexCmp xs ys = if x < y then -1 else if y < x then 1 else lexCmp (xs.drop (k + 1)) (ys.drop (k + 1))) := by
        refine HC.out.trans ?_
        rw [lexCmp_drop xs ys k hka hkb, ex, ey]
        simp [hka, hkb]
      clear HC ex ey
      by_cases c1 : x < y
      · go_wp2
        go_quiet (fail)
        go_wp2
        go_ret
        exact ⟨ret_int (by rw [HS.out, if_pos c1]), by rw [World.drewN_drewN]; exact hbelow _⟩
      · by_cases c2 : y < x
        · go_wp2
          go_quiet (fail)
          go_wp2
          go_quiet (fail)
          go_wp2
          go_ret
          exact ⟨ret_int (by rw [HS.out, if_neg (by omega), if_pos c2]), by rw [World.drewN_drewN, World.drewN_drewN]; exact hbelow _⟩
        · go_wp2
          go_quiet (fail)
          go_wp2
          go_quiet (fail)
          go_wp2
          go_roundw
          case rel => exact ⟨k + 1, _, by omega, by go_num, rfl, HS.out.trans (by rw [if_neg (by omega), if_neg (by omega)])⟩
          case measure => simp [intOf]; omega
    · have hk32 : k = 32 := by omega
      subst hk32
      go_wp2
      go_ret
      exact ⟨ret_int (by rw [HC.out, List.drop_eq_nil_of_le (by rw [HX.out]; omega), List.drop_eq_nil_of_le (by rw [HY.out]; omega)]; rfl), hbelow _⟩

set_option maxHeartbeats 400000 in
theorem cmp20 (xs ys : List Int) (w : World) (hx : xs.length = 20) (hy : ys.length = 20) (hrx : ∀ i, i < 20 → 0 ≤ xs.getD i 0 ∧ xs.getD i 0 < 256) (hry : ∀ i, i < 20 → 0 ≤ ys.getD i 0 ∧ ys.getD i 0 < 256) :
    Calls Try.prog 8 #[.agg (cu8 xs), .agg (cu8 ys)] w fun e w' => e = .returned (.int .i64 (lexCmp xs ys)) ∧ Below w.heap.size w w' := by
  have HX : Hid (xs.length = 20) := hx
  have HY : Hid (ys.length = 20) := hy
  have HRX : Hid (∀ i, i < 20 → 0 ≤ xs.getD i 0 ∧ xs.getD i 0 < 256) := hrx
  have HRY : Hid (∀ i, i < 20 → 0 ≤ ys.getD i 0 ∧ ys.getD i 0 < 256) := hry
  clear hx hy hrx hry
  go_enter Try.func8, Try.ntmps8
  go_wp2
  go_loopw [5] (fun i wr => ∃ k n : Nat, k ≤ 20 ∧ i = .int .i64 k ∧ wr = ((w.alloc (.cells (cu8 xs) 22)).alloc (.cells (cu8 ys) 22)).drewN n ∧ Hid (lexCmp xs ys = lexCmp (xs.drop k) (ys.drop k))) (fun i _ => 20 - (intOf i).toNat)
  case atStart => exact ⟨0, 0, Nat.zero_le _, rfl, rfl, rfl⟩
  case round =>
    obtain ⟨k, n, hk, rfl, rfl, HC⟩ := hrel
    have hbelow : ∀ m, Below w.heap.size w (((w.alloc (.cells (cu8 xs) 22)).alloc (.cells (cu8 ys) 22)).drewN m) := fun m => below_drewN ((((Below.refl _ w).alloc (Nat.le_refl _) _).alloc (by simp) _)) m
    by_cases hlt : k < 20
    · have hka : k < xs.length := by rw [HX.out]; omega
      have hkb : k < ys.length := by rw [HY.out]; omega
      obtain ⟨x, ex⟩ : ∃ x, x = xs.getD k 0 := ⟨_, rfl⟩
      obtain ⟨y, ey⟩ : ∃ y, y = ys.getD k 0 := ⟨_, rfl⟩
      have hcx : ((w.alloc (.cells (cu8 xs) 22)).alloc (.cells (cu8 ys) 22)).cell? ⟨w.heap.size, k, none⟩ = some (.int .u8 x) := by
        rw [ex, cell_of_row _ _ _ _ _ _ (heap_alloc2_old w _ _), cu8_at xs k hka]
      have hcy : ((w.alloc (.cells (cu8 xs) 22)).alloc (.cells (cu8 ys) 22)).cell? ⟨w.heap.size + 1, k, none⟩ = some (.int .u8 y) := by
        rw [ey, cell_of_row _ _ _ _ _ _ (heap_alloc2_new w _ _), cu8_at ys k hkb]
      have bx := HRX.out k hlt
      have by' := HRY.out k hlt
      rw [← ex] at bx
      rw [← ey] at by'
      have HS : Hid (lexCmp xs ys = if x < y then -1 else if y < x then 1 else lexCmp (xs.drop (k + 1)) (ys.drop (k + 1))) := by
        refine HC.out.trans ?_
        rw [lexCmp_drop xs ys k hka hkb, ex, ey]
        simp [hka, hkb]
      clear HC ex ey
      by_cases c1 : x < y
      · go_wp2
        go_quiet (fail)
        go_wp2
        go_ret
        exact ⟨ret_int (by rw [HS.out, if_pos c1]), by rw [World.drewN_drewN]; exact hbelow _⟩
      · by_cases c2 : y < x
        · go_wp2
          go_quiet (fail)
          go_wp2
          go_quiet (fail)
          go_wp2
          go_ret
          exact ⟨ret_int (by rw [HS.out, if_neg (by omega), if_pos c2]), by rw [World.drewN_drewN, World.drewN_drewN]; exact hbelow _⟩
        · go_wp2
          go_quiet (fail)
          go_wp2
          go_quiet (fail)
          go_wp2
          go_roundw
          case rel => exact ⟨k + 1, _, by omega, by go_num, rfl, HS.out.trans (by rw [if_neg (by omega), if_neg (by omega)])⟩
          case measure => simp [intOf]; omega
    · have hk32 : k = 20 := by omega
      subst hk32
      go_wp2
      go_ret
      exact ⟨ret_int (by rw [HC.out, List.drop_eq_nil_of_le (by rw [HX.out]; omega), List.drop_eq_nil_of_le (by rw [HY.out]; omega)]; rfl), hbelow _⟩
end Go.Proofs.Qxb6616454a

import Derived.Test.Qxb6616454aW1
/-! THE WALKS of the two readers-back of hexadecimal texts, and of the torrent file's name. -/
namespace Go.Proofs.Qxb6616454a
open Go.RowKit

/-- s holds two digits for each of the n numbers xs, high half first, that read back to them. -/
def Spelt (s : ByteArray) (xs : List Int) (n : Nat) : Prop :=
  ∀ i, i < n → ∀ (h1 : 2 * i < s.size) (h2 : 2 * i + 1 < s.size), 0 ≤ hexVal (s[2 * i].toNat : Int) ∧ hexVal (s[2 * i].toNat : Int) ≤ 15 ∧ 0 ≤ hexVal (s[2 * i + 1].toNat : Int) ∧ hexVal (s[2 * i + 1].toNat : Int) ≤ 15 ∧ hexVal (s[2 * i].toNat : Int) * 16 + hexVal (s[2 * i + 1].toNat : Int) = xs.getD i 0

theorem hexVal_u8 (c : UInt8) (w : World) : Calls Try.prog 14 #[.int .u8 (c.toNat : Int)] w fun e w' => e = .returned (.int .i64 (hexVal (c.toNat : Int))) ∧ w' = w :=
  hexVal_any _ w (by omega) (by have := c.toNat_lt; omega)

set_option maxHeartbeats 400000 in
theorem spells32 (s : ByteArray) (xs : List Int) (w : World) (hs : s.size = 64) (hx : xs.length = 32) (hsp : Spelt s xs 32) :
    Calls Try.prog 11 #[.string s, .agg (cu8 xs)] w fun e w' => e = .returned (.bool true) ∧ Below w.heap.size w w' := by
  have HX : Hid (xs.length = 32) := hx
  have HSP : Hid (Spelt s xs 32) := hsp
  clear hx hsp
  go_enter Try.func11, Try.ntmps11
  go_wp2
  go_loop [5] (fun i => ∃ k : Nat, k ≤ 32 ∧ i = .int .i64 k) (fun i => 32 - (intOf i).toNat)
  case atStart => exact ⟨0, Nat.zero_le _, rfl⟩
  case round =>
    obtain ⟨k, hk, rfl⟩ := hrel
    by_cases hlt : k < 32
    · have hka : k < xs.length := by rw [HX.out]; omega
      have h1 : 2 * k < s.size := by omega
      have h2 : 2 * k + 1 < s.size := by omega
      obtain ⟨x, ex⟩ : ∃ x, x = xs.getD k 0 := ⟨_, rfl⟩
      have hcx : (w.alloc (.cells (cu8 xs) 30)).cell? ⟨w.heap.size, k, none⟩ = some (.int .u8 x) := by
        rw [ex]; exact cell_new w xs 30 k hka
      obtain ⟨b1, b2, b3, b4, b5⟩ := HSP.out k hlt h1 h2
      rw [← ex] at b5
      have E1 : Hid (hexVal (s[2 * k].toNat : Int) * 16 + hexVal (s[2 * k + 1].toNat : Int) = x) := b5
      have x0 : 0 ≤ x := by have := E1.out; omega
      have x1 : x ≤ 255 := by have := E1.out; omega
      have hne : (hexVal (s[2 * k].toNat : Int) * 16 + hexVal (s[2 * k + 1].toNat : Int) != x) = false := by rw [E1.out]; simp
      clear ex b5
      go_wp2_with (go_at_call 14; refine (hexVal_u8 _ _).mono ?_; rintro e w' ⟨rfl, rfl⟩)
      go_round
      case rel => exact ⟨k + 1, by omega, by go_num⟩
      case measure => simp [intOf]; omega
    · go_wp2
      go_ret
      exact ⟨rfl, (Below.refl _ w).alloc (Nat.le_refl _) _⟩

set_option maxHeartbeats 400000 in
theorem spells20 (s : ByteArray) (xs : List Int) (w : World) (hs : s.size = 40) (hx : xs.length = 20) (hsp : Spelt s xs 20) :
    Calls Try.prog 9 #[.string s, .agg (cu8 xs)] w fun e w' => e = .returned (.bool true) ∧ Below w.heap.size w w' := by
  have HX : Hid (xs.length = 20) := hx
  have HSP : Hid (Spelt s xs 20) := hsp
  clear hx hsp
  go_enter Try.func9, Try.ntmps9
  go_wp2
  go_loop [5] (fun i => ∃ k : Nat, k ≤ 20 ∧ i = .int .i64 k) (fun i => 20 - (intOf i).toNat)
  case atStart => exact ⟨0, Nat.zero_le _, rfl⟩
  case round =>
    obtain ⟨k, hk, rfl⟩ := hrel
    by_cases hlt : k < 20
    · have hka : k < xs.length := by rw [HX.out]; omega
      have h1 : 2 * k < s.size := by omega
      have h2 : 2 * k + 1 < s.size := by omega
      obtain ⟨x, ex⟩ : ∃ x, x = xs.getD k 0 := ⟨_, rfl⟩
      have hcx : (w.alloc (.cells (cu8 xs) 22)).cell? ⟨w.heap.size, k, none⟩ = some (.int .u8 x) := by
        rw [ex]; exact cell_new w xs 22 k hka
      obtain ⟨b1, b2, b3, b4, b5⟩ := HSP.out k hlt h1 h2
      rw [← ex] at b5
      have E1 : Hid (hexVal (s[2 * k].toNat : Int) * 16 + hexVal (s[2 * k + 1].toNat : Int) = x) := b5
      have x0 : 0 ≤ x := by have := E1.out; omega
      have x1 : x ≤ 255 := by have := E1.out; omega
      have hne : (hexVal (s[2 * k].toNat : Int) * 16 + hexVal (s[2 * k + 1].toNat : Int) != x) = false := by rw [E1.out]; simp
      clear ex b5
      go_wp2_with (go_at_call 14; refine (hexVal_u8 _ _).mono ?_; rintro e w' ⟨rfl, rfl⟩)
      go_round
      case rel => exact ⟨k + 1, by omega, by go_num⟩
      case measure => simp [intOf]; omega
    · go_wp2
      go_ret
      exact ⟨rfl, (Below.refl _ w).alloc (Nat.le_refl _) _⟩

def suffix : ByteArray := ⟨#[46, 116, 111, 114, 114, 101, 110, 116]⟩

set_option maxHeartbeats 400000 in
theorem torrentFile_any (xs : List Int) (w : World) (hx : xs.length = 20) (hr : ∀ i, i < 20 → 0 ≤ xs.getD i 0 ∧ xs.getD i 0 < 256) :
    Calls Try.prog 13 #[.agg (cu8 xs)] w fun e w' => e = .returned (.string (hexText xs ++ suffix)) ∧ Below w.heap.size w w' := by
  have HX : Hid (xs.length = 20) := hx
  have HR : Hid (∀ i, i < 20 → 0 ≤ xs.getD i 0 ∧ xs.getD i 0 < 256) := hr
  clear hx hr
  go_enter Try.func13, Try.ntmps13
  have HI : Hid ((Try.prog.info? 24).map (·.size) = some (cu8 xs).size) := by show _ = _; rw [cu8_size, HX.out]; kernel_rfl
  have hsz : (hexText xs).size = 40 := by rw [hexText_size, HX.out]
  go_wp2_with (first | (refine wpList_load_row rfl 24 _ rfl w.heap.size rfl 24 (cu8 xs) (0, 0) _ (heap_alloc_new w _) Try.underlying24 rfl HI.out ?_) | (go_at_call 16; refine (hashString xs _ HX.out HR.out).mono ?_; rintro e w' ⟨rfl, hb⟩))
  go_ret
  exact ⟨rfl, below_new _ _ _ hb⟩

set_option maxHeartbeats 400000 in
theorem zzTorrentFile_any (xs : List Int) (w : World) (hx : xs.length = 20) (hr : ∀ i, i < 20 → 0 ≤ xs.getD i 0 ∧ xs.getD i 0 < 256) :
    Calls Try.prog 6 #[.agg (cu8 xs)] w fun e w' => e = .returned (.string (hexText xs ++ suffix)) ∧ Below w.heap.size w w' := by
  have HX : Hid (xs.length = 20) := hx
  have HR : Hid (∀ i, i < 20 → 0 ≤ xs.getD i 0 ∧ xs.getD i 0 < 256) := hr
  clear hx hr
  go_enter Try.func6, Try.ntmps6
  have HI : Hid ((Try.prog.info? 24).map (·.size) = some (cu8 xs).size) := by show _ = _; rw [cu8_size, HX.out]; kernel_rfl
  go_wp2_with (first | (refine wpList_load_row rfl 24 _ rfl w.heap.size rfl 24 (cu8 xs) (0, 0) _ (heap_alloc_new w _) Try.underlying24 rfl HI.out ?_) | (go_at_call 13; refine (torrentFile_any xs _ HX.out HR.out).mono ?_; rintro e w' ⟨rfl, hb⟩))
  go_ret
  exact ⟨rfl, below_new _ _ _ hb⟩
end Go.Proofs.Qxb6616454a

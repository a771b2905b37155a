import Derived.Test.Qxb6616454aRows
import Derived.Test.Qxb6616454aShelf
import Derived.Test.Qxb6616454aPlain
import Derived.WalkKit
import Derived.WalkSpells
import Derived.WalkLawsBesides
import Derived.Deep.QuietTactic
import Derived.BigQuiet
/-! THE WALKS that this seat's three laws share: the hex texts, the digit's value, the order of two strings. -/
namespace Go.Proofs.Qxb6616454a
open Go.RowKit Go.Lib

/-- The text of a list of bytes: two digits a byte. -/
def hexText (xs : List Int) : ByteArray := ⟨(Hx.encode (Lib.bytesOf xs)).toArray⟩

theorem hexText_size (xs : List Int) : (hexText xs).size = 2 * xs.length := by
  show (Hx.encode (Lib.bytesOf xs)).toArray.size = _
  rw [List.size_toArray, Hx.encode_length, bytesOf_length]

def cu8 (xs : List Int) : Array Value := (xs.map fun x => Value.int .u8 x).toArray

theorem cu8_size (xs : List Int) : (cu8 xs).size = xs.length := by simp [cu8]

theorem cu8_at (xs : List Int) (i : Nat) (h : i < xs.length) : (cu8 xs)[i]? = some (.int .u8 (xs.getD i 0)) := by
  simp [cu8, h]

theorem cell_new (w : World) (xs : List Int) (T : TypeId) (i : Nat) (h : i < xs.length) : (w.alloc (.cells (cu8 xs) T)).cell? ⟨w.heap.size, i, none⟩ = some (.int .u8 (xs.getD i 0)) := by
  rw [cell_of_row _ _ _ _ _ _ (heap_alloc_new w _), cu8_at xs i h]

theorem below_new (w w' : World) (o : Obj) (h : Below (w.alloc o).heap.size (w.alloc o) w') : Below w.heap.size w w' :=
  ((Below.refl _ w).alloc (Nat.le_refl _) o).trans (h.mono (by simp))

set_option maxHeartbeats 400000 in
theorem idString (xs : List Int) (w : World) (hx : xs.length = 32) (hr : ∀ i, i < 32 → 0 ≤ xs.getD i 0 ∧ xs.getD i 0 < 256) :
    Calls Try.prog 10 #[.agg (cu8 xs)] w fun e w' => e = .returned (.string (hexText xs)) ∧ Below w.heap.size w w' := by
  have HX : Hid (xs.length = 32) := hx
  clear hx
  go_enter Try.func10, Try.ntmps10
  go_wp2_with fail
  refine (Try.hex_EncodeToString w.heap.size 0 32 32 xs (w.alloc (.cells (cu8 xs) 31)) HX.out hr (fun i hi => ?_) (by simp) (by omega)).mono ?_
  · rw [Nat.zero_add]; exact cell_new w xs 31 i (by rw [HX.out]; exact hi)
  rintro e w' ⟨rfl, hb⟩
  go_wp2
  go_ret
  exact ⟨rfl, below_new _ _ _ hb⟩

set_option maxHeartbeats 400000 in
theorem hashString (xs : List Int) (w : World) (hx : xs.length = 20) (hr : ∀ i, i < 20 → 0 ≤ xs.getD i 0 ∧ xs.getD i 0 < 256) :
    Calls Try.prog 16 #[.agg (cu8 xs)] w fun e w' => e = .returned (.string (hexText xs)) ∧ Below w.heap.size w w' := by
  have HX : Hid (xs.length = 20) := hx
  clear hx
  go_enter Try.func16, Try.ntmps16
  go_wp2_with fail
  refine (Try.hex_EncodeToString w.heap.size 0 20 20 xs (w.alloc (.cells (cu8 xs) 24)) HX.out hr (fun i hi => ?_) (by simp) (by omega)).mono ?_
  · rw [Nat.zero_add]; exact cell_new w xs 24 i (by rw [HX.out]; exact hi)
  rintro e w' ⟨rfl, hb⟩
  go_wp2
  go_ret
  exact ⟨rfl, below_new _ _ _ hb⟩

set_option maxHeartbeats 400000 in
theorem hexVal_any (c : Int) (w : World) (h0 : 0 ≤ c) (h1 : c < 256) :
    Calls Try.prog 14 #[.int .u8 c] w fun e w' => e = .returned (.int .i64 (hexVal c)) ∧ w' = w := by
  unfold hexVal
  by_cases a : 48 ≤ c
  · by_cases b : c ≤ 57
    · rw [if_pos ⟨a, b⟩]
      go_enter Try.func14, Try.ntmps14
      go_wp2
      go_ret
      exact ⟨rfl, rfl⟩
    · rw [if_neg (by omega)]
      by_cases d : 97 ≤ c
      · by_cases e : c ≤ 102
        · rw [if_pos ⟨d, e⟩]
          go_enter Try.func14, Try.ntmps14
          go_wp2
          go_ret
          exact ⟨rfl, rfl⟩
        · rw [if_neg (by omega)]
          go_enter Try.func14, Try.ntmps14
          go_wp2
          go_ret
          exact ⟨rfl, rfl⟩
      · rw [if_neg (by omega)]
        go_enter Try.func14, Try.ntmps14
        go_wp2
        go_ret
        exact ⟨rfl, rfl⟩
  · rw [if_neg (by omega), if_neg (by omega)]
    have d : ¬ 97 ≤ c := by omega
    go_enter Try.func14, Try.ntmps14
    go_wp2
    go_ret
    exact ⟨rfl, rfl⟩
end Go.Proofs.Qxb6616454a

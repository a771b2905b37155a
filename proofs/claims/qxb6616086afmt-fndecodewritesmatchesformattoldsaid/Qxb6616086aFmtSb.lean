import Derived.Test.Qxb6616086aFmtCl
/-! THE WALKS of zzBytes and zzSameBytes. -/
namespace Go.Proofs.Qxb6616086aFmt
open Go.RowKit

def GotBool (e : Ending) (w' w : World) : Prop := ∃ r : Bool, e = .returned (.bool r) ∧ w = w'

set_option maxHeartbeats 1000000 in
theorem zzBytes_any (a : Option Addr) (n c : Nat) (w : World) (hn : n ≤ maxLen) : Calls Tryf.prog 5 #[.slice a n c] w fun e w' => GotBool e w' w := by
  unfold maxLen at hn
  go_enter Tryf.func5, Tryf.ntmps5
  go_wp2
  all_goals
    go_ret
    exact ⟨_, rfl, rfl⟩

set_option maxHeartbeats 1000000 in
theorem same_nil (w : World) : Calls Tryf.prog 17 #[.slice none 0 0, .slice none 0 0] w fun e w' => e = .returned (.bool true) ∧ ∃ n, w' = w.drewN n := by
  have q22 := nil22
  go_enter Tryf.func17, Tryf.ntmps17
  go_wp2
  refine wp_loop_rounds 1 ?_
  rw [rounds_succ]
  go_wp2
  go_ret
  exact ⟨rfl, 0, rfl⟩

set_option maxHeartbeats 1000000 in
theorem same_some (g1 c1 g2 c2 : Nat) (l : List UInt8) (w : World) (hn : l.length ≤ 1000000)
    (h1 : ∀ i, i < l.length → w.cell? ⟨g1, i, none⟩ = some (byteV (l.getD i 0))) (h2 : ∀ i, i < l.length → w.cell? ⟨g2, i, none⟩ = some (byteV (l.getD i 0))) :
    Calls Tryf.prog 17 #[.slice (some ⟨g1, 0, none⟩) l.length c1, .slice (some ⟨g2, 0, none⟩) l.length c2] w fun e w' => e = .returned (.bool true) ∧ ∃ n, w' = w.drewN n := by
  have q22 := nil22
  have H1 : Hid (∀ i, i < l.length → w.cell? ⟨g1, i, none⟩ = some (byteV (l.getD i 0))) := h1
  have H2 : Hid (∀ i, i < l.length → w.cell? ⟨g2, i, none⟩ = some (byteV (l.getD i 0))) := h2
  clear h1 h2
  go_enter Tryf.func17, Tryf.ntmps17
  go_wp2
  clear q22
  go_loopw [5] (fun i wr => ∃ k m : Nat, k ≤ l.length ∧ i = .int .i64 k ∧ wr = w.drewN m) (fun i _ => l.length - (intOf i).toNat)
  case atStart => exact ⟨0, 0, Nat.zero_le _, rfl, rfl⟩
  case round =>
    obtain ⟨k, m, hk, rfl, rfl⟩ := hrel
    by_cases hlt : k < l.length
    · have hx : w.cell? ⟨g1, k, none⟩ = some (.int .u8 ((l.getD k 0).toNat : Int)) := H1.out k hlt
      have hy : w.cell? ⟨g2, k, none⟩ = some (.int .u8 ((l.getD k 0).toNat : Int)) := H2.out k hlt
      generalize l.getD k 0 = x at hx hy
      go_wp2
      go_quiet (fail)
      go_wp2
      go_roundw
      case rel => exact ⟨k + 1, _, by omega, by go_num, rfl⟩
      case measure => simp [intOf]; omega
    · go_wp2
      go_ret
      exact ⟨rfl, _, rfl⟩
end Go.Proofs.Qxb6616086aFmt

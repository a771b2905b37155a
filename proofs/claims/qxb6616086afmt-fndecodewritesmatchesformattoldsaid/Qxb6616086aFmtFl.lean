import Derived.Test.Qxb6616086aFmtUv
import Derived.Test.Qxb6616086aFmtApp
/-! THE WALKS of zzField, zzClone, zzBytes and zzSameBytes. -/
namespace Go.Proofs.Qxb6616086aFmt
open Go.RowKit

def fieldRet (b : List UInt8) (p : Nat) : Value :=
  match fieldAt b p with
  | none => .tuple #[.int .i64 p, .int .i64 p, .bool false]
  | some x => .tuple #[.int .i64 x.1, .int .i64 x.2, .bool true]
theorem fieldRet_none {b : List UInt8} {p : Nat} (h : fieldAt b p = none) : Ending.returned (.tuple #[.int .i64 p, .int .i64 p, .bool false]) = .returned (fieldRet b p) := by
  unfold fieldRet
  rw [h]
theorem fieldRet_some {b : List UInt8} {p s e : Nat} {e' : Int} (h : fieldAt b p = some (s, e)) (he : e' = e) : Ending.returned (.tuple #[.int .i64 s, .int .i64 e', .bool true]) = .returned (fieldRet b p) := by
  unfold fieldRet
  rw [h, he]

set_option maxHeartbeats 1000000 in
theorem zzField_any (pb : Nat) (b : List UInt8) (p c : Nat) (w : World) (hN : b.length ≤ 65536) (hp : p ≤ b.length) (hc : PayIs w pb b) :
    Calls Tryf.prog 13 #[.slice (some ⟨pb, 0, none⟩) b.length c, .int .i64 p] w fun e w' => e = .returned (fieldRet b p) ∧ w' = w := by
  have K := zzUv_any pb b p c w hN hp hc
  cases hu : uvAt b p with
  | none =>
    have HF : Hid (fieldAt b p = none) := by
      show _ = _
      unfold fieldAt
      rw [hu]
    have er : uvRet b p = .tuple #[.int .u64 0, .int .i64 p, .bool false] := by unfold uvRet; rw [hu]
    rw [er] at K
    have HK : Hid (Calls Tryf.prog 15 #[.slice (some ⟨pb, 0, none⟩) b.length c, .int .i64 p] w fun e w' => e = .returned (.tuple #[.int .u64 0, .int .i64 p, .bool false]) ∧ w' = w) := K
    clear K er hu hc
    go_enter Tryf.func13, Tryf.ntmps13
    go_wp2_with fail
    refine HK.out.mono ?_
    rintro e w' ⟨rfl, ew⟩
    subst w'
    go_wp2
    go_ret3
    exact ⟨fieldRet_none HF.out, rfl⟩
  | some x =>
    obtain ⟨n, q⟩ := x
    have er : uvRet b p = .tuple #[.int .u64 n, .int .i64 q, .bool true] := by unfold uvRet; rw [hu]
    have hq := uvAt_le hp hu
    have hn := uvAt_lt hu
    rw [er] at K
    have HK : Hid (Calls Tryf.prog 15 #[.slice (some ⟨pb, 0, none⟩) b.length c, .int .i64 p] w fun e w' => e = .returned (.tuple #[.int .u64 n, .int .i64 q, .bool true]) ∧ w' = w) := K
    by_cases hlt : b.length - q < n
    · have HF : Hid (fieldAt b p = none) := by
        show _ = _
        unfold fieldAt
        rw [hu]
        exact if_pos hlt
      clear K er hu hc
      go_enter Tryf.func13, Tryf.ntmps13
      go_wp2_with fail
      refine HK.out.mono ?_
      rintro e w' ⟨rfl, ew⟩
      subst w'
      clear HK
      go_wp2
      go_ret3
      exact ⟨fieldRet_none HF.out, rfl⟩
    · have HF : Hid (fieldAt b p = some (q, q + n)) := by
        show _ = _
        unfold fieldAt
        rw [hu]
        exact if_neg hlt
      clear K er hu hc
      go_enter Tryf.func13, Tryf.ntmps13
      go_wp2_with fail
      refine HK.out.mono ?_
      rintro e w' ⟨rfl, ew⟩
      subst w'
      clear HK
      go_wp2
      go_ret3
      exact ⟨fieldRet_some HF.out (by omega), rfl⟩
end Go.Proofs.Qxb6616086aFmt

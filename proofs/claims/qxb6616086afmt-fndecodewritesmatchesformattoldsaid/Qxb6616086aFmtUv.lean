import Derived.Test.Qxb6616086aFmtPlain
import Derived.Test.Qxb6616086aFmtProg
import Derived.ProofKit
import Derived.Below
import Derived.WalkKit
import Derived.Deep.OwnRows
import Derived.Deep.LoopGhost
import Derived.Lib.Walk
import Derived.Lib.VarintBits
import Derived.Laws.Closers25b
/-! THE WALK of zzUvarint and zzField. -/
namespace Go.Proofs.Qxb6616086aFmt
open Go.RowKit

/-- What zzUvarint hands back. -/
def uvRet (b : List UInt8) (p : Nat) : Value :=
  match uvAt b p with
  | none => .tuple #[.int .u64 0, .int .i64 p, .bool false]
  | some x => .tuple #[.int .u64 x.1, .int .i64 x.2, .bool true]
theorem uvRet_none {b : List UInt8} {p n : Nat} {j : Int} (h : Lib.uvarintDec (b.drop p) = (n, j)) (hj : j ≤ 0) : Ending.returned (.tuple #[.int .u64 0, .int .i64 p, .bool false]) = .returned (uvRet b p) := by
  unfold uvRet uvAt
  rw [h, if_pos hj]
theorem uvRet_some {b : List UInt8} {p n : Nat} {j q : Int} {v : Int} (h : Lib.uvarintDec (b.drop p) = (n, j)) (hj : 0 < j) (hq : q = p + j) (hv : v = n) : Ending.returned (.tuple #[.int .u64 v, .int .i64 q, .bool true]) = .returned (uvRet b p) := by
  unfold uvRet uvAt
  rw [h, if_neg (by omega), hv, hq]
  have e : ((p + j.toNat : Nat) : Int) = p + j := by omega
  simp only [e]

/-- The payload's cells. -/
def PayIs (w : World) (pb : Nat) (b : List UInt8) : Prop := ∀ i, i < b.length → w.cell? ⟨pb, i, none⟩ = some (.int .u8 ((b.getD i 0).toNat : Int))

set_option maxHeartbeats 32000000 in
set_option maxRecDepth 100000 in
theorem zzUv_any (pb : Nat) (b : List UInt8) (p c : Nat) (w : World) (hN : b.length ≤ 65536) (hp : p ≤ b.length) (hc : PayIs w pb b) :
    Calls Tryf.prog 15 #[.slice (some ⟨pb, 0, none⟩) b.length c, .int .i64 p] w fun e w' => e = .returned (uvRet b p) ∧ w' = w := by
  have HC : Hid (PayIs w pb b) := hc
  clear hc
  go_enter Tryf.func15, Tryf.ntmps15
  go_wp2
  go_loop [7, 8, 9] (fun vx vs vi => ∃ k acc : Nat, vi = .int .i64 k ∧ vs = .int .u64 ((7 * k : Nat) : Int) ∧ vx = .int .u64 acc ∧ k ≤ 10 ∧ p + k ≤ b.length ∧ acc < 2 ^ (7 * k) ∧ Hid (Lib.uvarintDec (b.drop p) = Lib.uvarintFrom k acc (b.drop (p + k))))
    (fun _ _ vi => b.length - (intOf vi).toNat)
  case atStart => exact ⟨0, 0, rfl, rfl, rfl, by omega, by omega, by decide, rfl⟩
  case round =>
    obtain ⟨k, acc, rfl, rfl, rfl, hk10, hkn, hacc, HD⟩ := hrel
    by_cases hk : p + k < b.length
    · have hcell := HC.out (p + k) hk
      have hdrop : b.drop (p + k) = (b.getD (p + k) 0) :: b.drop (p + k + 1) := by
        rw [List.drop_eq_getElem_cons hk]
        congr 1
        simp [hk]
      have hdec := HD.out
      rw [hdrop] at hdec
      generalize b.getD (p + k) 0 = x at hcell hdec
      have hb256 : x.toNat < 256 := x.toNat_lt
      clear hdrop HD
      have hks : k = 0 ∨ k = 1 ∨ k = 2 ∨ k = 3 ∨ k = 4 ∨ k = 5 ∨ k = 6 ∨ k = 7 ∨ k = 8 ∨ k = 9 ∨ k = 10 := by omega
      rcases hks with rfl | rfl | rfl | rfl | rfl | rfl | rfl | rfl | rfl | rfl | rfl
      · obtain rfl : acc = 0 := by simpa using hacc
        have hacc' : (0 : Nat) < 1 := by decide
        rw [Nat.add_zero] at hcell hk
        by_cases hb : x.toNat < 128
        · have hor : bits .or .u64 0 (x.toNat : Int) = ((x.toNat : Nat) : Int) := by
            rw [u64_orv0 _ _ (by omega) (by omega) (by omega) (by omega) (by omega)]
            omega
          have hF : Lib.uvarintFrom 0 0 (x :: b.drop (p + 0 + 1)) = (x.toNat, 1) := by simp [Lib.uvarintFrom, hb]
          have HF : Hid _ := hdec.trans hF
          clear hdec hF
          go_wp2
          go_ret3
          exact ⟨uvRet_some HF.out (by omega) (by omega) (by omega), rfl⟩
        · have hv : bits .or .u64 0 (IntKind.u64.wrap (IntKind.u64.wrap (bits .and .u8 (x.toNat : Int) 127))) = ((x.toNat % 128 : Nat) : Int) := by
            simp (disch := omega) only [u8_and127, u64_wrap_id, u64_orv0]
            omega
          have hF : Lib.uvarintFrom 0 0 (x :: b.drop (p + 0 + 1)) = Lib.uvarintFrom 1 (x.toNat % 128) (b.drop (p + 0 + 1)) := by simp [Lib.uvarintFrom, hb]
          have HF : Hid _ := hdec.trans hF
          clear hdec hF
          go_wp2
          refine ⟨⟨1, x.toNat % 128, by go_num, by go_num, (by first | rfl | (congr 1; omega)), by omega, by omega, ?_, HF.out⟩, by simp [intOf]; omega⟩
          show x.toNat % 128 < 2 ^ 7
          have e2 : (2 : Nat) ^ 7 = 128 := by decide
          omega
      · have hacc' : acc < 128 := by simpa using hacc
        by_cases hb : x.toNat < 128
        · have hor : bits .or .u64 (acc : Int) ((x.toNat : Int) * 128) = ((acc + x.toNat * 128 : Nat) : Int) := by
            rw [u64_orv7 _ _ (by omega) (by omega) (by omega) (by omega) (by omega)]
            omega
          have hF : Lib.uvarintFrom 1 acc (x :: b.drop (p + 1 + 1)) = (acc + x.toNat * 128, 2) := by simp [Lib.uvarintFrom, hb]
          have HF : Hid _ := hdec.trans hF
          clear hdec hF
          go_wp2
          go_ret3
          exact ⟨uvRet_some HF.out (by omega) (by omega) (by omega), rfl⟩
        · have hv : bits .or .u64 (acc : Int) (IntKind.u64.wrap (IntKind.u64.wrap (bits .and .u8 (x.toNat : Int) 127) * 128)) = ((acc + x.toNat % 128 * 128 : Nat) : Int) := by
            simp (disch := omega) only [u8_and127, u64_wrap_id, u64_orv7]
            omega
          have hF : Lib.uvarintFrom 1 acc (x :: b.drop (p + 1 + 1)) = Lib.uvarintFrom 2 (acc + x.toNat % 128 * 128) (b.drop (p + 1 + 1)) := by simp [Lib.uvarintFrom, hb]
          have HF : Hid _ := hdec.trans hF
          clear hdec hF
          go_wp2
          refine ⟨⟨2, acc + x.toNat % 128 * 128, by go_num, by go_num, (by first | rfl | (congr 1; omega)), by omega, by omega, ?_, HF.out⟩, by simp [intOf]; omega⟩
          show acc + x.toNat % 128 * 128 < 2 ^ 14
          have e2 : (2 : Nat) ^ 14 = 16384 := by decide
          omega
      · have hacc' : acc < 16384 := by simpa using hacc
        by_cases hb : x.toNat < 128
        · have hor : bits .or .u64 (acc : Int) ((x.toNat : Int) * 16384) = ((acc + x.toNat * 16384 : Nat) : Int) := by
            rw [u64_orv14 _ _ (by omega) (by omega) (by omega) (by omega) (by omega)]
            omega
          have hF : Lib.uvarintFrom 2 acc (x :: b.drop (p + 2 + 1)) = (acc + x.toNat * 16384, 3) := by simp [Lib.uvarintFrom, hb]
          have HF : Hid _ := hdec.trans hF
          clear hdec hF
          go_wp2
          go_ret3
          exact ⟨uvRet_some HF.out (by omega) (by omega) (by omega), rfl⟩
        · have hv : bits .or .u64 (acc : Int) (IntKind.u64.wrap (IntKind.u64.wrap (bits .and .u8 (x.toNat : Int) 127) * 16384)) = ((acc + x.toNat % 128 * 16384 : Nat) : Int) := by
            simp (disch := omega) only [u8_and127, u64_wrap_id, u64_orv14]
            omega
          have hF : Lib.uvarintFrom 2 acc (x :: b.drop (p + 2 + 1)) = Lib.uvarintFrom 3 (acc + x.toNat % 128 * 16384) (b.drop (p + 2 + 1)) := by simp [Lib.uvarintFrom, hb]
          have HF : Hid _ := hdec.trans hF
          clear hdec hF
          go_wp2
          refine ⟨⟨3, acc + x.toNat % 128 * 16384, by go_num, by go_num, (by first | rfl | (congr 1; omega)), by omega, by omega, ?_, HF.out⟩, by simp [intOf]; omega⟩
          show acc + x.toNat % 128 * 16384 < 2 ^ 21
          have e2 : (2 : Nat) ^ 21 = 2097152 := by decide
          omega
      · have hacc' : acc < 2097152 := by simpa using hacc
        by_cases hb : x.toNat < 128
        · have hor : bits .or .u64 (acc : Int) ((x.toNat : Int) * 2097152) = ((acc + x.toNat * 2097152 : Nat) : Int) := by
            rw [u64_orv21 _ _ (by omega) (by omega) (by omega) (by omega) (by omega)]
            omega
          have hF : Lib.uvarintFrom 3 acc (x :: b.drop (p + 3 + 1)) = (acc + x.toNat * 2097152, 4) := by simp [Lib.uvarintFrom, hb]
          have HF : Hid _ := hdec.trans hF
          clear hdec hF
          go_wp2
          go_ret3
          exact ⟨uvRet_some HF.out (by omega) (by omega) (by omega), rfl⟩
        · have hv : bits .or .u64 (acc : Int) (IntKind.u64.wrap (IntKind.u64.wrap (bits .and .u8 (x.toNat : Int) 127) * 2097152)) = ((acc + x.toNat % 128 * 2097152 : Nat) : Int) := by
            simp (disch := omega) only [u8_and127, u64_wrap_id, u64_orv21]
            omega
          have hF : Lib.uvarintFrom 3 acc (x :: b.drop (p + 3 + 1)) = Lib.uvarintFrom 4 (acc + x.toNat % 128 * 2097152) (b.drop (p + 3 + 1)) := by simp [Lib.uvarintFrom, hb]
          have HF : Hid _ := hdec.trans hF
          clear hdec hF
          go_wp2
          refine ⟨⟨4, acc + x.toNat % 128 * 2097152, by go_num, by go_num, (by first | rfl | (congr 1; omega)), by omega, by omega, ?_, HF.out⟩, by simp [intOf]; omega⟩
          show acc + x.toNat % 128 * 2097152 < 2 ^ 28
          have e2 : (2 : Nat) ^ 28 = 268435456 := by decide
          omega
      · have hacc' : acc < 268435456 := by simpa using hacc
        by_cases hb : x.toNat < 128
        · have hor : bits .or .u64 (acc : Int) ((x.toNat : Int) * 268435456) = ((acc + x.toNat * 268435456 : Nat) : Int) := by
            rw [u64_orv28 _ _ (by omega) (by omega) (by omega) (by omega) (by omega)]
            omega
          have hF : Lib.uvarintFrom 4 acc (x :: b.drop (p + 4 + 1)) = (acc + x.toNat * 268435456, 5) := by simp [Lib.uvarintFrom, hb]
          have HF : Hid _ := hdec.trans hF
          clear hdec hF
          go_wp2
          go_ret3
          exact ⟨uvRet_some HF.out (by omega) (by omega) (by omega), rfl⟩
        · have hv : bits .or .u64 (acc : Int) (IntKind.u64.wrap (IntKind.u64.wrap (bits .and .u8 (x.toNat : Int) 127) * 268435456)) = ((acc + x.toNat % 128 * 268435456 : Nat) : Int) := by
            simp (disch := omega) only [u8_and127, u64_wrap_id, u64_orv28]
            omega
          have hF : Lib.uvarintFrom 4 acc (x :: b.drop (p + 4 + 1)) = Lib.uvarintFrom 5 (acc + x.toNat % 128 * 268435456) (b.drop (p + 4 + 1)) := by simp [Lib.uvarintFrom, hb]
          have HF : Hid _ := hdec.trans hF
          clear hdec hF
          go_wp2
          refine ⟨⟨5, acc + x.toNat % 128 * 268435456, by go_num, by go_num, (by first | rfl | (congr 1; omega)), by omega, by omega, ?_, HF.out⟩, by simp [intOf]; omega⟩
          show acc + x.toNat % 128 * 268435456 < 2 ^ 35
          have e2 : (2 : Nat) ^ 35 = 34359738368 := by decide
          omega
      · have hacc' : acc < 34359738368 := by simpa using hacc
        by_cases hb : x.toNat < 128
        · have hor : bits .or .u64 (acc : Int) ((x.toNat : Int) * 34359738368) = ((acc + x.toNat * 34359738368 : Nat) : Int) := by
            rw [u64_orv35 _ _ (by omega) (by omega) (by omega) (by omega) (by omega)]
            omega
          have hF : Lib.uvarintFrom 5 acc (x :: b.drop (p + 5 + 1)) = (acc + x.toNat * 34359738368, 6) := by simp [Lib.uvarintFrom, hb]
          have HF : Hid _ := hdec.trans hF
          clear hdec hF
          go_wp2
          go_ret3
          exact ⟨uvRet_some HF.out (by omega) (by omega) (by omega), rfl⟩
        · have hv : bits .or .u64 (acc : Int) (IntKind.u64.wrap (IntKind.u64.wrap (bits .and .u8 (x.toNat : Int) 127) * 34359738368)) = ((acc + x.toNat % 128 * 34359738368 : Nat) : Int) := by
            simp (disch := omega) only [u8_and127, u64_wrap_id, u64_orv35]
            omega
          have hF : Lib.uvarintFrom 5 acc (x :: b.drop (p + 5 + 1)) = Lib.uvarintFrom 6 (acc + x.toNat % 128 * 34359738368) (b.drop (p + 5 + 1)) := by simp [Lib.uvarintFrom, hb]
          have HF : Hid _ := hdec.trans hF
          clear hdec hF
          go_wp2
          refine ⟨⟨6, acc + x.toNat % 128 * 34359738368, by go_num, by go_num, (by first | rfl | (congr 1; omega)), by omega, by omega, ?_, HF.out⟩, by simp [intOf]; omega⟩
          show acc + x.toNat % 128 * 34359738368 < 2 ^ 42
          have e2 : (2 : Nat) ^ 42 = 4398046511104 := by decide
          omega
      · have hacc' : acc < 4398046511104 := by simpa using hacc
        by_cases hb : x.toNat < 128
        · have hor : bits .or .u64 (acc : Int) ((x.toNat : Int) * 4398046511104) = ((acc + x.toNat * 4398046511104 : Nat) : Int) := by
            rw [u64_orv42 _ _ (by omega) (by omega) (by omega) (by omega) (by omega)]
            omega
          have hF : Lib.uvarintFrom 6 acc (x :: b.drop (p + 6 + 1)) = (acc + x.toNat * 4398046511104, 7) := by simp [Lib.uvarintFrom, hb]
          have HF : Hid _ := hdec.trans hF
          clear hdec hF
          go_wp2
          go_ret3
          exact ⟨uvRet_some HF.out (by omega) (by omega) (by omega), rfl⟩
        · have hv : bits .or .u64 (acc : Int) (IntKind.u64.wrap (IntKind.u64.wrap (bits .and .u8 (x.toNat : Int) 127) * 4398046511104)) = ((acc + x.toNat % 128 * 4398046511104 : Nat) : Int) := by
            simp (disch := omega) only [u8_and127, u64_wrap_id, u64_orv42]
            omega
          have hF : Lib.uvarintFrom 6 acc (x :: b.drop (p + 6 + 1)) = Lib.uvarintFrom 7 (acc + x.toNat % 128 * 4398046511104) (b.drop (p + 6 + 1)) := by simp [Lib.uvarintFrom, hb]
          have HF : Hid _ := hdec.trans hF
          clear hdec hF
          go_wp2
          refine ⟨⟨7, acc + x.toNat % 128 * 4398046511104, by go_num, by go_num, (by first | rfl | (congr 1; omega)), by omega, by omega, ?_, HF.out⟩, by simp [intOf]; omega⟩
          show acc + x.toNat % 128 * 4398046511104 < 2 ^ 49
          have e2 : (2 : Nat) ^ 49 = 562949953421312 := by decide
          omega
      · have hacc' : acc < 562949953421312 := by simpa using hacc
        by_cases hb : x.toNat < 128
        · have hor : bits .or .u64 (acc : Int) ((x.toNat : Int) * 562949953421312) = ((acc + x.toNat * 562949953421312 : Nat) : Int) := by
            rw [u64_orv49 _ _ (by omega) (by omega) (by omega) (by omega) (by omega)]
            omega
          have hF : Lib.uvarintFrom 7 acc (x :: b.drop (p + 7 + 1)) = (acc + x.toNat * 562949953421312, 8) := by simp [Lib.uvarintFrom, hb]
          have HF : Hid _ := hdec.trans hF
          clear hdec hF
          go_wp2
          go_ret3
          exact ⟨uvRet_some HF.out (by omega) (by omega) (by omega), rfl⟩
        · have hv : bits .or .u64 (acc : Int) (IntKind.u64.wrap (IntKind.u64.wrap (bits .and .u8 (x.toNat : Int) 127) * 562949953421312)) = ((acc + x.toNat % 128 * 562949953421312 : Nat) : Int) := by
            simp (disch := omega) only [u8_and127, u64_wrap_id, u64_orv49]
            omega
          have hF : Lib.uvarintFrom 7 acc (x :: b.drop (p + 7 + 1)) = Lib.uvarintFrom 8 (acc + x.toNat % 128 * 562949953421312) (b.drop (p + 7 + 1)) := by simp [Lib.uvarintFrom, hb]
          have HF : Hid _ := hdec.trans hF
          clear hdec hF
          go_wp2
          refine ⟨⟨8, acc + x.toNat % 128 * 562949953421312, by go_num, by go_num, (by first | rfl | (congr 1; omega)), by omega, by omega, ?_, HF.out⟩, by simp [intOf]; omega⟩
          show acc + x.toNat % 128 * 562949953421312 < 2 ^ 56
          have e2 : (2 : Nat) ^ 56 = 72057594037927936 := by decide
          omega
      · have hacc' : acc < 72057594037927936 := by simpa using hacc
        by_cases hb : x.toNat < 128
        · have hor : bits .or .u64 (acc : Int) ((x.toNat : Int) * 72057594037927936) = ((acc + x.toNat * 72057594037927936 : Nat) : Int) := by
            rw [u64_orv56 _ _ (by omega) (by omega) (by omega) (by omega) (by omega)]
            omega
          have hF : Lib.uvarintFrom 8 acc (x :: b.drop (p + 8 + 1)) = (acc + x.toNat * 72057594037927936, 9) := by simp [Lib.uvarintFrom, hb]
          have HF : Hid _ := hdec.trans hF
          clear hdec hF
          go_wp2
          go_ret3
          exact ⟨uvRet_some HF.out (by omega) (by omega) (by omega), rfl⟩
        · have hv : bits .or .u64 (acc : Int) (IntKind.u64.wrap (IntKind.u64.wrap (bits .and .u8 (x.toNat : Int) 127) * 72057594037927936)) = ((acc + x.toNat % 128 * 72057594037927936 : Nat) : Int) := by
            simp (disch := omega) only [u8_and127, u64_wrap_id, u64_orv56]
            omega
          have hF : Lib.uvarintFrom 8 acc (x :: b.drop (p + 8 + 1)) = Lib.uvarintFrom 9 (acc + x.toNat % 128 * 72057594037927936) (b.drop (p + 8 + 1)) := by simp [Lib.uvarintFrom, hb]
          have HF : Hid _ := hdec.trans hF
          clear hdec hF
          go_wp2
          refine ⟨⟨9, acc + x.toNat % 128 * 72057594037927936, by go_num, by go_num, (by first | rfl | (congr 1; omega)), by omega, by omega, ?_, HF.out⟩, by simp [intOf]; omega⟩
          show acc + x.toNat % 128 * 72057594037927936 < 2 ^ 63
          have e2 : (2 : Nat) ^ 63 = 9223372036854775808 := by decide
          omega
      · have hacc' : acc < 9223372036854775808 := by simpa using hacc
        by_cases hb : x.toNat < 128
        · by_cases hb1 : 1 < x.toNat
          · have hF : Lib.uvarintFrom 9 acc (x :: b.drop (p + 9 + 1)) = (0, -10) := by simp [Lib.uvarintFrom, hb, hb1]
            have HF : Hid _ := hdec.trans hF
            clear hdec hF
            go_wp2
            go_ret3
            exact ⟨uvRet_none HF.out (by omega), rfl⟩
          · have hor : bits .or .u64 (acc : Int) ((x.toNat : Int) * 9223372036854775808) = ((acc + x.toNat * 9223372036854775808 : Nat) : Int) := by
              rw [u64_orv63 _ _ (by omega) (by omega) (by omega) (by omega) (by omega)]
              omega
            have hF : Lib.uvarintFrom 9 acc (x :: b.drop (p + 9 + 1)) = (acc + x.toNat * 9223372036854775808, 10) := by simp [Lib.uvarintFrom, hb, hb1]
            have HF : Hid _ := hdec.trans hF
            clear hdec hF
            go_wp2
            go_ret3
            exact ⟨uvRet_some HF.out (by omega) (by omega) (by omega), rfl⟩
        · obtain ⟨a2, ha2⟩ : ∃ a2 : Nat, bits .or .u64 (acc : Int) (IntKind.u64.wrap (IntKind.u64.wrap (bits .and .u8 (x.toNat : Int) 127) * 9223372036854775808)) = (a2 : Int) := ⟨_, (Int.toNat_of_nonneg (bits_lo_u64 _ _ _)).symm⟩
          have hhi := bits_hi_u64 .or (acc : Int) (IntKind.u64.wrap (IntKind.u64.wrap (bits .and .u8 (x.toNat : Int) 127) * 9223372036854775808))
          have hF : Lib.uvarintFrom 9 acc (x :: b.drop (p + 9 + 1)) = Lib.uvarintFrom 10 a2 (b.drop (p + 9 + 1)) := by
            rw [Lib.uvarintFrom_ten a2 (acc + x.toNat % 128 * 9223372036854775808)]
            simp [Lib.uvarintFrom, hb]
          have HF : Hid _ := hdec.trans hF
          clear hdec hF
          go_wp2
          refine ⟨⟨10, a2, by go_num, by go_num, (by first | rfl | (congr 1; omega)), by omega, by omega, ?_, HF.out⟩, by simp [intOf]; omega⟩
          show a2 < 2 ^ 70
          have e2 : (2 : Nat) ^ 70 = 1180591620717411303424 := by decide
          omega
      · have hF : Lib.uvarintFrom 10 acc (x :: b.drop (p + 10 + 1)) = (0, -11) := by simp [Lib.uvarintFrom]
        have HF : Hid _ := hdec.trans hF
        clear hdec hF
        go_wp2
        go_ret3
        exact ⟨uvRet_none HF.out (by omega), rfl⟩
    · have HF : Hid (Lib.uvarintDec (b.drop p) = (0, 0)) := by
        show _ = _
        rw [HD.out, List.drop_eq_nil_of_le (by omega)]
        rfl
      clear HD
      by_cases hk1 : k < 10
      · go_wp2
        go_ret3
        exact ⟨uvRet_none HF.out (by omega), rfl⟩
      · go_wp2
        go_ret3
        exact ⟨uvRet_none HF.out (by omega), rfl⟩
end Go.Proofs.Qxb6616086aFmt

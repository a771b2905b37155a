import Derived.Test.Qxb6615138aW2
/-! THE WALK of FnCompareRoutesIsOrderOfEncodedPair. -/
namespace Go.Proofs.Qxb6615138a
open Go.RowKit

theorem cmpL_drop (a b : List UInt8) (k : Nat) (ha : k < a.length) (hb : k < b.length) :
    cmpL (a.drop k) (b.drop k) = if ((a.getD k 0).toNat : Int) < ((b.getD k 0).toNat : Int) then -1 else if ((b.getD k 0).toNat : Int) < ((a.getD k 0).toNat : Int) then 1 else cmpL (a.drop (k + 1)) (b.drop (k + 1)) := by
  rw [List.drop_eq_getElem_cons ha, List.drop_eq_getElem_cons hb, cmpL]
  have e1 : a.getD k 0 = a[k] := by simp [ha]
  have e2 : b.getD k 0 = b[k] := by simp [hb]
  rw [e1, e2]
  simp only [UInt8.lt_iff_toNat_lt, Int.ofNat_lt]
theorem cmpL_short (a b : List UInt8) (k : Nat) (h : a.length ≤ k ∨ b.length ≤ k) (ha : k ≤ a.length) (hb : k ≤ b.length) :
    cmpL (a.drop k) (b.drop k) = if (a.length : Int) < b.length then -1 else if (b.length : Int) < a.length then 1 else 0 := by
  have h1 : (a.drop k).length = a.length - k := List.length_drop
  have h2 : (b.drop k).length = b.length - k := List.length_drop
  cases ea : a.drop k with
  | nil =>
    rw [ea] at h1
    simp only [List.length_nil] at h1
    cases eb : b.drop k with
    | nil =>
      rw [eb] at h2
      simp only [List.length_nil] at h2
      rw [if_neg (by omega), if_neg (by omega)]; rfl
    | cons y ys =>
      rw [eb] at h2
      simp only [List.length_cons] at h2
      rw [if_pos (by omega)]; rfl
  | cons x xs =>
    rw [ea] at h1
    simp only [List.length_cons] at h1
    cases eb : b.drop k with
    | nil =>
      rw [eb] at h2
      simp only [List.length_nil] at h2
      rw [if_neg (by omega), if_pos (by omega)]; rfl
    | cons y ys =>
      rw [eb] at h2
      simp only [List.length_cons] at h2
      omega

set_option maxHeartbeats 1000000 in
theorem cmpBytes_any (g1 c1 g2 c2 : Nat) (A B : List UInt8) (w : World) (hA : A.length ≤ 1000000) (hB : B.length ≤ 1000000) (b1 : BufIs w g1 c1 A) (b2 : BufIs w g2 c2 B) :
    Calls Try.prog 6 #[.slice (some ⟨g1, 0, none⟩) A.length c1, .slice (some ⟨g2, 0, none⟩) B.length c2] w fun e w' => e = .returned (.int .i64 (cmpL A B)) ∧ ∃ n, w' = w.drewN n := by
  have H1 : Hid (BufIs w g1 c1 A) := b1
  have H2 : Hid (BufIs w g2 c2 B) := b2
  clear b1 b2
  obtain ⟨n, en, hn⟩ : ∃ n, (n = if B.length < A.length then B.length else A.length) ∧ n ≤ A.length ∧ n ≤ B.length ∧ (A.length ≤ n ∨ B.length ≤ n) := ⟨_, rfl, by split <;> omega⟩
  have body : ∀ (slots : Prop), slots → True := fun _ _ => trivial
  clear body
  by_cases hab : B.length < A.length
  · rw [if_pos hab] at en
    subst en
    go_enter Try.func6, Try.ntmps6
    go_wp2
    go_loopw [6] (fun i wr => ∃ k m : Nat, k ≤ B.length ∧ i = .int .i64 k ∧ wr = w.drewN m ∧ Hid (cmpL A B = cmpL (A.drop k) (B.drop k))) (fun i _ => B.length - (intOf i).toNat)
    case atStart => exact ⟨0, 0, Nat.zero_le _, rfl, rfl, rfl⟩
    case round =>
      obtain ⟨k, m, hk, rfl, rfl, HC⟩ := hrel
      by_cases hlt : k < B.length
      · have hcx := H1.out.cell (i := k) (by omega)
        have hcy := H2.out.cell (i := k) (by omega)
        have HS : Hid _ := HC.out.trans (cmpL_drop A B k (by omega) (by omega))
        obtain ⟨x, ex⟩ : ∃ x, x = A.getD k 0 := ⟨_, rfl⟩
        obtain ⟨y, ey⟩ : ∃ y, y = B.getD k 0 := ⟨_, rfl⟩
        rw [← ex] at hcx HS
        rw [← ey] at hcy HS
        clear HC ex ey
        by_cases q1 : (x.toNat : Int) < y.toNat
        · go_wp2
          go_quiet (fail)
          go_wp2
          go_ret
          exact ⟨ret_int (by rw [HS.out, if_pos q1]), _, World.drewN_drewN _ _ _⟩
        · by_cases q2 : (y.toNat : Int) < x.toNat
          · go_wp2
            go_quiet (fail)
            go_wp2
            go_quiet (fail)
            go_wp2
            go_ret
            exact ⟨ret_int (by rw [HS.out, if_neg (by omega), if_pos q2]), _, by rw [World.drewN_drewN, World.drewN_drewN]⟩
          · go_wp2
            go_quiet (fail)
            go_wp2
            go_quiet (fail)
            go_wp2
            go_roundw
            case rel => exact ⟨k + 1, _, by omega, by go_num, rfl, HS.out.trans (by rw [if_neg (by omega), if_neg (by omega)])⟩
            case measure => simp [intOf]; omega
      · have HE : Hid (cmpL A B = 1) := by
          show _ = _
          rw [HC.out, cmpL_short A B k (by omega) (by omega) (by omega), if_neg (by omega), if_pos (by omega)]
        go_wp2
        go_ret
        exact ⟨ret_int HE.out.symm, _, rfl⟩
  · rw [if_neg hab] at en
    subst en
    go_enter Try.func6, Try.ntmps6
    go_wp2
    go_loopw [6] (fun i wr => ∃ k m : Nat, k ≤ A.length ∧ i = .int .i64 k ∧ wr = w.drewN m ∧ Hid (cmpL A B = cmpL (A.drop k) (B.drop k))) (fun i _ => A.length - (intOf i).toNat)
    case atStart => exact ⟨0, 0, Nat.zero_le _, rfl, rfl, rfl⟩
    case round =>
      obtain ⟨k, m, hk, rfl, rfl, HC⟩ := hrel
      by_cases hlt : k < A.length
      · have hcx := H1.out.cell (i := k) (by omega)
        have hcy := H2.out.cell (i := k) (by omega)
        have HS : Hid _ := HC.out.trans (cmpL_drop A B k (by omega) (by omega))
        obtain ⟨x, ex⟩ : ∃ x, x = A.getD k 0 := ⟨_, rfl⟩
        obtain ⟨y, ey⟩ : ∃ y, y = B.getD k 0 := ⟨_, rfl⟩
        rw [← ex] at hcx HS
        rw [← ey] at hcy HS
        clear HC ex ey
        by_cases q1 : (x.toNat : Int) < y.toNat
        · go_wp2
          go_quiet (fail)
          go_wp2
          go_ret
          exact ⟨ret_int (by rw [HS.out, if_pos q1]), _, World.drewN_drewN _ _ _⟩
        · by_cases q2 : (y.toNat : Int) < x.toNat
          · go_wp2
            go_quiet (fail)
            go_wp2
            go_quiet (fail)
            go_wp2
            go_ret
            exact ⟨ret_int (by rw [HS.out, if_neg (by omega), if_pos q2]), _, by rw [World.drewN_drewN, World.drewN_drewN]⟩
          · go_wp2
            go_quiet (fail)
            go_wp2
            go_quiet (fail)
            go_wp2
            go_roundw
            case rel => exact ⟨k + 1, _, by omega, by go_num, rfl, HS.out.trans (by rw [if_neg (by omega), if_neg (by omega)])⟩
            case measure => simp [intOf]; omega
      · by_cases hc : (A.length : Int) < B.length
        · have HE : Hid (cmpL A B = -1) := by
            show _ = _
            rw [HC.out, cmpL_short A B k (by omega) (by omega) (by omega), if_pos hc]
          go_wp2
          go_ret
          exact ⟨ret_int HE.out.symm, _, rfl⟩
        · have HE : Hid (cmpL A B = 0) := by
            show _ = _
            rw [HC.out, cmpL_short A B k (by omega) (by omega) (by omega), if_neg hc, if_neg (by omega)]
          go_wp2
          go_ret
          exact ⟨ret_int HE.out.symm, _, rfl⟩
/-- E-PART -/
def GotB (e : Ending) (w' w : World) : Prop := ∃ r : Bool, e = .returned (.bool r) ∧ w = w'

set_option maxHeartbeats 1000000 in
theorem bytes4_any (a0 a1 a2 a3 : ByteArray) (w : World) (h0 : a0.size ≤ maxLen) (h1 : a1.size ≤ maxLen) (h2 : a2.size ≤ maxLen) (h3 : a3.size ≤ maxLen) :
    Calls Try.prog 5 #[.string a0, .string a1, .string a2, .string a3] w fun e w' => GotB e w' w := by
  unfold maxLen at h0 h1 h2 h3
  go_enter Try.func5, Try.ntmps5
  go_wp2
  all_goals
    go_ret
    exact ⟨_, rfl, rfl⟩

theorem BufIs.len {w : World} {g cap : Nat} {L : List UInt8} (h : BufIs w g cap L) (hc : cap ≤ 1000000) : L.length ≤ 1000000 := by
  obtain ⟨f, _, h2, _⟩ := h
  omega

def RetE (W : World) (e : Ending) (w' : World) : Prop := e = .returned (.bool true) ∧ Below W.heap.size W w'

set_option maxHeartbeats 2000000 in
theorem lawE (ar ad br bd : ByteArray) (W : World) (h0 : ar.size ≤ maxLen) (h1 : ad.size ≤ maxLen) (h2 : br.size ≤ maxLen) (h3 : bd.size ≤ maxLen) :
    Calls Try.prog 3 #[.string ar, .string ad, .string br, .string bd] W fun e w' => RetE W e w' := by
  go_enter Try.func3, Try.ntmps3
  go_wp2_with fail
  refine (bytes4_any ar ad br bd W h0 h1 h2 h3).mono ?_
  rintro e w' ⟨r, rfl, ew⟩
  subst w'
  cases r with
  | false =>
    go_wp2
    go_ret
    exact ⟨rfl, Below.refl _ _⟩
  | true =>
  clear h0 h1 h2 h3
  by_cases g0 : (65536 : Int) < ar.size
  · go_wp2
    go_ret
    exact ⟨rfl, Below.refl _ _⟩
  by_cases g1 : (65536 : Int) < ad.size
  · go_wp2
    go_ret
    exact ⟨rfl, Below.refl _ _⟩
  by_cases g2 : (65536 : Int) < br.size
  · go_wp2
    go_ret
    exact ⟨rfl, Below.refl _ _⟩
  by_cases g3 : (65536 : Int) < bd.size
  · go_wp2
    go_ret
    exact ⟨rfl, Below.refl _ _⟩
  obtain ⟨A, eA⟩ : ∃ x, x = encP ar.data.toList ad.data.toList := ⟨_, rfl⟩
  obtain ⟨B, eB⟩ : ∃ x, x = encP br.data.toList bd.data.toList := ⟨_, rfl⟩
  obtain ⟨c, ec⟩ : ∃ x, x = cmpL A B := ⟨_, rfl⟩
  obtain ⟨d, ed⟩ : ∃ x, x = -c := ⟨_, rfl⟩
  have hc : cmpRS ar ad br bd = c := by
    rw [ec, eA, eB, cmpL_encP]
    unfold cmpRS
    rw [ByteArray.toList_eq, ByteArray.toList_eq, ByteArray.toList_eq, ByteArray.toList_eq]
  have K1 : Hid (∀ w, Calls Try.prog 7 #[.string ar, .string ad] w fun e w' => GotBuf e w w' A) := fun w => by rw [eA]; exact enc_any _ _ w (by omega) (by omega)
  have K2 : Hid (∀ w, Calls Try.prog 7 #[.string br, .string bd] w fun e w' => GotBuf e w w' B) := fun w => by rw [eB]; exact enc_any _ _ w (by omega) (by omega)
  have K3 : Hid (∀ w, Calls Try.prog 8 #[.string ar, .string ad, .string br, .string bd] w fun e w' => e = .returned (.int .i64 c) ∧ Below w.heap.size w w') := fun w => by rw [← hc]; exact zzRoutes_any _ _ _ _ w
  have K4 : Hid (∀ w, Calls Try.prog 8 #[.string br, .string bd, .string ar, .string ad] w fun e w' => e = .returned (.int .i64 d) ∧ Below w.heap.size w w') := fun w => by
    rw [ed, ← hc, show -cmpRS ar ad br bd = cmpRS br bd ar ad from (cmpR_swap _ _ _ _).symm]
    exact zzRoutes_any _ _ _ _ w
  have EC : Hid (c = cmpL A B) := ec
  have RC : Hid (c = -1 ∨ c = 0 ∨ c = 1) := by
    rw [ec]; exact cmpL_range _ _
  have ED : Hid (d = -c) := ed
  clear ec ed hc eA eB
  go_wp2_with fail
  clear g0 g1 g2 g3
  refine (K1.out _).mono ?_
  rintro e w1 ⟨b1, c1, rfl, HB1, hc1, hb1⟩
  clear K1
  go_wp2_with fail
  refine (K2.out _).mono ?_
  rintro e w2 ⟨b2, c2, rfl, HB2, hc2, hb2⟩
  clear K2
  go_wp2_with fail
  refine (cmpBytes_any b1 c1 b2 c2 A B w2 (HB1.len hc1) (HB2.len hc2) (HB1.of_below hb2) HB2).mono ?_
  rintro e w3 ⟨rfl, n, ew⟩
  subst w3
  rw [← EC.out]
  clear HB1 HB2 hc1 hc2 EC
  go_wp2_with fail
  refine (K3.out _).mono ?_
  rintro e w4 ⟨rfl, hb4⟩
  clear K3
  go_wp2_with fail
  refine (K4.out _).mono ?_
  rintro e w5 ⟨rfl, hb5⟩
  clear K4
  have hb : Below W.heap.size W w5 := ((hb1.trans ((hb2.trans ⟨rfl, rfl, rfl, Nat.le_refl _, fun _ _ => rfl⟩ : Below w1.heap.size w1 (w2.drewN n)).mono hb1.size)).trans (hb4.mono (Nat.le_trans hb1.size hb2.size))).trans (hb5.mono (Nat.le_trans hb1.size (Nat.le_trans hb2.size hb4.size)))
  clear hb1 hb2 hb4 hb5
  have hd := ED.out
  clear ED
  rcases RC.out with h | h | h <;> (
    subst h
    subst hd
    clear RC
    go_wp2
    go_ret
    exact ⟨rfl, hb⟩)
end Go.Proofs.Qxb6615138a

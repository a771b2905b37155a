import Derived.Test.Qxb6615138aW1
/-! THE WALK of FnCompareRoutesIsTotalOrderRegistrarFirst. -/
namespace Go.Proofs.Qxb6615138a
open Go.RowKit

def GotBool (e : Ending) (w' w : World) : Prop := ∃ r : Bool, e = .returned (.bool r) ∧ w = w'

set_option maxHeartbeats 1000000 in
theorem bytes6_any (a0 a1 a2 a3 a4 a5 : ByteArray) (w : World) (h0 : a0.size ≤ maxLen) (h1 : a1.size ≤ maxLen) (h2 : a2.size ≤ maxLen) (h3 : a3.size ≤ maxLen) (h4 : a4.size ≤ maxLen) (h5 : a5.size ≤ maxLen) :
    Calls Try.prog 9 #[.string a0, .string a1, .string a2, .string a3, .string a4, .string a5] w fun e w' => GotBool e w' w := by
  unfold maxLen at h0 h1 h2 h3 h4 h5
  go_enter Try.func9, Try.ntmps9
  go_wp2
  all_goals
    go_ret
    exact ⟨_, rfl, rfl⟩

def RetTrue (W : World) (e : Ending) (w' : World) : Prop := e = .returned (.bool true) ∧ Below W.heap.size W w'

set_option maxHeartbeats 2000000 in
theorem lawT (ar ad br bd cr cd : ByteArray) (W : World) (h0 : ar.size ≤ maxLen) (h1 : ad.size ≤ maxLen) (h2 : br.size ≤ maxLen) (h3 : bd.size ≤ maxLen) (h4 : cr.size ≤ maxLen) (h5 : cd.size ≤ maxLen) :
    Calls Try.prog 4 #[.string ar, .string ad, .string br, .string bd, .string cr, .string cd] W fun e w' => RetTrue W e w' := by
  go_enter Try.func4, Try.ntmps4
  go_wp2_with fail
  refine (bytes6_any ar ad br bd cr cd W h0 h1 h2 h3 h4 h5).mono ?_
  rintro e w' ⟨r, rfl, ew⟩
  subst w'
  cases r with
  | false =>
    go_wp2
    go_ret
    exact ⟨rfl, Below.refl _ _⟩
  | true =>
  clear h0 h1 h2 h3 h4 h5
  by_cases g0 : (65536 : Int) < ar.size
  · go_wp2
    go_ret
    exact ⟨rfl, Below.refl _ _⟩
  by_cases g1 : (65536 : Int) < ad.size
  · go_wp2
    go_ret
    exact ⟨rfl, Below.refl _ _⟩
  by_cases g2 : (65536 : Int) < br.size
  · go_wp2
    go_ret
    exact ⟨rfl, Below.refl _ _⟩
  by_cases g3 : (65536 : Int) < bd.size
  · go_wp2
    go_ret
    exact ⟨rfl, Below.refl _ _⟩
  by_cases g4 : (65536 : Int) < cr.size
  · go_wp2
    go_ret
    exact ⟨rfl, Below.refl _ _⟩
  by_cases g5 : (65536 : Int) < cd.size
  · go_wp2
    go_ret
    exact ⟨rfl, Below.refl _ _⟩
  obtain ⟨ab, eab⟩ : ∃ x, x = cmpRS ar ad br bd := ⟨_, rfl⟩
  obtain ⟨ba, eba⟩ : ∃ x, x = cmpRS br bd ar ad := ⟨_, rfl⟩
  obtain ⟨bc, ebc⟩ : ∃ x, x = cmpRS br bd cr cd := ⟨_, rfl⟩
  obtain ⟨ac, eac⟩ : ∃ x, x = cmpRS ar ad cr cd := ⟨_, rfl⟩
  obtain ⟨z, ez⟩ : ∃ x, x = cmpRS ar cd br cr := ⟨_, rfl⟩
  have K1 : Hid (∀ w, Calls Try.prog 8 #[.string ar, .string ad, .string br, .string bd] w fun e w' => e = .returned (.int .i64 ab) ∧ Below w.heap.size w w') := fun w => by rw [eab]; exact zzRoutes_any _ _ _ _ w
  have K2 : Hid (∀ w, Calls Try.prog 8 #[.string br, .string bd, .string ar, .string ad] w fun e w' => e = .returned (.int .i64 ba) ∧ Below w.heap.size w w') := fun w => by rw [eba]; exact zzRoutes_any _ _ _ _ w
  have K3 : Hid (∀ w, Calls Try.prog 8 #[.string br, .string bd, .string cr, .string cd] w fun e w' => e = .returned (.int .i64 bc) ∧ Below w.heap.size w w') := fun w => by rw [ebc]; exact zzRoutes_any _ _ _ _ w
  have K4 : Hid (∀ w, Calls Try.prog 8 #[.string ar, .string ad, .string cr, .string cd] w fun e w' => e = .returned (.int .i64 ac) ∧ Below w.heap.size w w') := fun w => by rw [eac]; exact zzRoutes_any _ _ _ _ w
  have K5 : Hid (∀ w, Calls Try.prog 8 #[.string ar, .string cd, .string br, .string cr] w fun e w' => e = .returned (.int .i64 z) ∧ Below w.heap.size w w') := fun w => by rw [ez]; exact zzRoutes_any _ _ _ _ w
  have hba : ba = -ab := by rw [eba, eab]; exact cmpR_swap _ _ _ _
  have hz : ab = 0 ↔ (ar.toList = br.toList ∧ ad.toList = bd.toList) := by
    rw [eab]
    exact cmpR_zero _ _ _ _
  have hfirst : ar.toList ≠ br.toList → z = ab := fun q => by
    rw [ez, eab]
    exact cmpR_first _ _ _ _ _ _ q
  have htr := cmpR_trans ar.toList ad.toList br.toList bd.toList cr.toList cd.toList
  have rab := cmpR_range ar.toList ad.toList br.toList bd.toList
  have rbc := cmpR_range br.toList bd.toList cr.toList cd.toList
  have rac := cmpR_range ar.toList ad.toList cr.toList cd.toList
  rw [show cmpR ar.toList ad.toList br.toList bd.toList = ab from eab.symm] at htr rab
  rw [show cmpR br.toList bd.toList cr.toList cd.toList = bc from ebc.symm] at htr rbc
  rw [show cmpR ar.toList ad.toList cr.toList cd.toList = ac from eac.symm] at htr rac
  clear eab eba ebc eac ez
  have RB : Hid (ab = -1 ∨ ab = 0 ∨ ab = 1) := rab
  have RC : Hid (bc = -1 ∨ bc = 0 ∨ bc = 1) := rbc
  have RA : Hid (ac = -1 ∨ ac = 0 ∨ ac = 1) := rac
  have TR : Hid _ := htr
  have HZ : Hid _ := hz
  have HBA : Hid _ := hba
  have HFI : Hid _ := hfirst
  clear rab rbc rac htr hz hba hfirst
  go_wp2_with fail
  clear g0 g1 g2 g3 g4 g5
  refine (K1.out _).mono ?_
  rintro e w1 ⟨rfl, hb1⟩
  clear K1
  go_wp2_with fail
  refine (K2.out _).mono ?_
  rintro e w2 ⟨rfl, hb2⟩
  clear K2
  go_wp2_with fail
  refine (K3.out _).mono ?_
  rintro e w3 ⟨rfl, hb3⟩
  clear K3
  go_wp2_with fail
  refine (K4.out _).mono ?_
  rintro e w4 ⟨rfl, hb4⟩
  clear K4
  have hb : Below W.heap.size W w4 := ((hb1.trans (hb2.mono hb1.size)).trans (hb3.mono (Nat.le_trans hb1.size hb2.size))).trans (hb4.mono (Nat.le_trans hb1.size (Nat.le_trans hb2.size hb3.size)))
  clear hb1 hb2 hb3 hb4
  have hba := HBA.out
  have htr := TR.out
  clear HBA TR
  by_cases c1 : (ar.toList == br.toList) = true
  · have e1 : ar.toList = br.toList := by simpa using c1
    have n1 : (!ar.toList == br.toList) = false := by rw [c1]; rfl
    by_cases c2 : (ad.toList == bd.toList) = true
    · have hab : ab = 0 := HZ.out.2 ⟨e1, by simpa using c2⟩
      clear HZ HFI RB K5 e1
      rcases RC.out with hbc | hbc | hbc <;> rcases RA.out with hac | hac | hac <;> first
        | (exfalso; omega)
        | (subst hab hba hbc hac
           clear htr RC RA
           go_wp2
           go_ret
           exact ⟨rfl, hb⟩)
    · have c2 : (ad.toList == bd.toList) = false := by simpa using c2
      have hab : ab ≠ 0 := fun q => by have := (HZ.out.1 q).2; simp [this] at c2
      clear HZ HFI K5 e1
      rcases RB.out with hab' | hab' | hab' <;> rcases RC.out with hbc | hbc | hbc <;> rcases RA.out with hac | hac | hac <;> first
        | (exfalso; omega)
        | (subst hab' hba hbc hac
           clear htr RC RA RB hab
           go_wp2
           go_ret
           exact ⟨rfl, hb⟩)
  · have c1 : (ar.toList == br.toList) = false := by simpa using c1
    have n1 : (!ar.toList == br.toList) = true := by rw [c1]; rfl
    have e1 : ar.toList ≠ br.toList := by simpa using c1
    have hzz := HFI.out e1
    have hab : ab ≠ 0 := fun q => e1 (HZ.out.1 q).1
    clear HZ HFI e1
    rcases RB.out with hab' | hab' | hab' <;> rcases RC.out with hbc | hbc | hbc <;> rcases RA.out with hac | hac | hac <;> first
      | (exfalso; omega)
      | (subst hzz
         subst hab' hba hbc hac
         clear htr RC RA RB hab
         go_wp2_with fail
         refine (K5.out _).mono ?_
         rintro e w5 ⟨rfl, hb5⟩
         go_wp2
         go_ret
         exact ⟨rfl, hb.trans (hb5.mono hb.size)⟩)
end Go.Proofs.Qxb6615138a

import Derived.Test.Qxb6616086aFmtRf
/-! THE WRITE SET: nameOf, findIn, find. -/
namespace Go.Proofs.Qxb6616086aFmt
open Go.RowKit Go.Maps

theorem law9 : Keyed Tryf.prog 9 := string_keyed Tryf.underlying9
theorem zero3 (w : World) : (zeroValue 3).run Tryf.prog w = .ok (.int .i64 0) w := by kernel_rfl

/-- What the map holds of the tables. -/
def IdxOf (D : DataW Unit) (ts : List PTab) : Prop := ∀ l : List UInt8, (findT ts l = none → Maps.has D (.string l) = false) ∧ ∀ i, findT ts l = some i → Maps.has D (.string l) = true ∧ ∀ z, D.atKey (.string l) z = .lit (.int .i64 (i : Int))
/-- The index: none up to eight tables. -/
def IxIs (w : World) (B : Nat) (xv : Value) (ts : List MTab) : Prop :=
  (xv = .map none ∧ ts.length ≤ 8) ∨ ∃ mb D, xv = .map (some mb) ∧ 8 < ts.length ∧ B ≤ mb ∧ w.ownsMap Tryf.prog 9 (plainElem Tryf.prog 3) mb ts.length D ∧ IdxOf D (plain ts)

theorem nameOf_any (g o : Nat) (l : List UInt8) (w : World) (hc : w.cell? ⟨g, o, none⟩ = some (strV l)) :
    Calls Tryf.prog 27 #[.pointer (some ⟨g, o, none⟩)] w fun e w' => e = .returned (strV l) ∧ w' = w := by
  unfold strV at hc ⊢
  go_enter Tryf.func27, Tryf.ntmps27
  go_wp2
  go_ret
  exact ⟨rfl, rfl⟩

def fnd (ts : List PTab) (name : List UInt8) : Int :=
  match findT ts name with
  | some i => i
  | none => -1

theorem findT_len {ts : List PTab} {name : List UInt8} {i : Nat} (h : findT ts name = some i) : i < ts.length := by
  unfold findT at h
  exact (List.findIdx?_eq_some_iff_getElem.1 h).1


theorem neq29some (mb : Nat) (w : World) : (binOp .neq 29 (.map (some mb)) (.map none)).run Tryf.prog w = .ok (.bool true) w := by kernel_rfl
theorem neq29nil (w : World) : (binOp .neq 29 (.map none) (.map none)).run Tryf.prog w = .ok (.bool false) w := by kernel_rfl

theorem key9 (name : List UInt8) (hl : name.length ≤ 65536) : keyOf Tryf.prog 9 (.string ⟨name.toArray⟩) = some (.string name) := by
  have h := Go.WideMaps.keyOf_string_mk (P := Tryf.prog) Tryf.underlying9 (s := ⟨name.toArray⟩) (by show name.toArray.size ≤ maxLen; rw [List.size_toArray]; unfold maxLen; omega)
  simpa using h

set_option maxHeartbeats 1000000 in
theorem findIn_map (mb n : Nat) (D : DataW Unit) (tv : Value) (ts : List PTab) (name : List UInt8) (w : World) (hl : name.length ≤ 65536) (hown : w.ownsMap Tryf.prog 9 (plainElem Tryf.prog 3) mb n D) (hix : IdxOf D ts) :
    Calls Tryf.prog 26 #[.map (some mb), tv, strV name, .func (.func 27) #[] #[]] w fun e w' => e = .returned (.int .i64 (fnd ts name)) ∧ w' = w := by
  have hk := key9 name hl
  have q1 := neq29some
  unfold strV
  cases hf : findT ts name with
  | none =>
    have hh := (hix name).1 hf
    have er : fnd ts name = -1 := by unfold fnd; rw [hf]
    rw [er]
    clear hix hf er
    go_enter Tryf.func26, Tryf.ntmps26
    go_wp2_with (at_lookup; refine wpList_lookup_own_ok_int _ rfl _ _ 29 rfl 9 3 .i64 law9 Tryf.underlying29 Tryf.underlying3 (zero3 _) mb n D rfl hown _ _ rfl hk ?_; intro c hat hwc; rw [hh])
    go_ret
    exact ⟨rfl, rfl⟩
  | some i =>
    have hh := ((hix name).2 i hf).1
    have ha := ((hix name).2 i hf).2 (.lit (.int .i64 0))
    have er : fnd ts name = (i : Int) := by unfold fnd; rw [hf]
    rw [er]
    clear hix hf er
    go_enter Tryf.func26, Tryf.ntmps26
    go_wp2_with (at_lookup; refine wpList_lookup_own_ok_int _ rfl _ _ 29 rfl 9 3 .i64 law9 Tryf.underlying29 Tryf.underlying3 (zero3 _) mb n D rfl hown _ _ rfl hk ?_; intro c hat hwc; rw [hh]; obtain rfl : c = (i : Int) := (by rw [ha] at hat; cases hat; rfl))
    go_ret
    exact ⟨rfl, rfl⟩

set_option maxHeartbeats 1000000 in
theorem findIn_list (B g cap : Nat) (ts : List MTab) (name : List UInt8) (w : World) (hn : ts.length ≤ 1000000) (h : TabsIs w B 54 4 58 (.slice (some ⟨g, 0, none⟩) ts.length cap) ts) :
    Calls Tryf.prog 26 #[.map none, .slice (some ⟨g, 0, none⟩) ts.length cap, strV name, .func (.func 27) #[] #[]] w fun e w' => e = .returned (.int .i64 (fnd (plain ts) name)) ∧ w' = w := by
  have q1 := neq29nil
  unfold strV
  have HT : Hid (TabsIs w B 54 4 58 (.slice (some ⟨g, 0, none⟩) ts.length cap) ts) := h
  clear h
  obtain ⟨y, hy⟩ : ∃ y, y = ByteArray.mk name.toArray := ⟨_, rfl⟩
  have HY : Hid (y = ByteArray.mk name.toArray) := hy
  rw [← hy]
  clear hy
  go_enter Tryf.func26, Tryf.ntmps26
  go_wp2
  go_loopw [24] (fun i wr => ∃ k : Nat, k ≤ ts.length ∧ i = .int .i64 k ∧ wr = w ∧ Hid (∀ j, j < k → (tabAt ts j).name ≠ name)) (fun i _ => ts.length - (intOf i).toNat)
  case atStart => exact ⟨0, Nat.zero_le _, rfl, rfl, fun j hj => by omega⟩
  case round =>
    obtain ⟨k, hk, rfl, rfl, HN⟩ := hrel
    by_cases hlt : k < ts.length
    · obtain ⟨x, hx⟩ : ∃ x, x = ByteArray.mk (tabAt ts k).name.toArray := ⟨_, rfl⟩
      have hcell : wr.cell? ⟨g, k * 4, none⟩ = some (strV (tabAt ts k).name) := (HT.out.cell rfl hlt (k := 0) (by decide)).1
      have KN := nameOf_any g (k * 4) _ wr hcell
      unfold strV at KN
      rw [← hx] at KN
      clear hcell
      by_cases heq : (x.toList == y.toList) = true
      · have er : fnd (plain ts) name = (k : Int) := by
          unfold fnd
          rw [findT_some (ts := plain ts) (name := name) (k := k) (by rw [plain_length]; exact hlt) (fun j hj => by rw [name_pl]; exact HN.out j hj) (by
            have e : x.toList = y.toList := by simpa using heq
            rw [hx, HY.out, strBytes, strBytes] at e
            rw [name_pl]; exact e)]
        have HE : Hid (fnd (plain ts) name = (k : Int)) := er
        clear hx HN er
        go_wp2_with fail
        refine KN.mono ?_
        rintro e' w' ⟨rfl, ew⟩
        subst w'
        clear KN
        go_wp2
        go_ret
        exact ⟨by rw [HE.out]; rfl, rfl⟩
      · have heq : (x.toList == y.toList) = false := by simpa using heq
        have HN' : Hid (∀ j, j < k + 1 → (tabAt ts j).name ≠ name) := fun j hj => by
          by_cases e : j = k
          · subst e
            intro q
            rw [hx, HY.out, strBytes, strBytes, q] at heq
            simp at heq
          · exact HN.out j (by omega)
        clear hx HN
        go_wp2_with fail
        refine KN.mono ?_
        rintro e' w' ⟨rfl, ew⟩
        subst w'
        clear KN
        go_wp2
        go_roundw
        case rel => exact ⟨k + 1, by omega, by go_num, by first | rfl | trivial, HN'⟩
        case measure => simp [intOf]; omega
    · have er : fnd (plain ts) name = -1 := by
        unfold fnd
        rw [findT_none (fun j hj => by rw [name_pl]; exact HN.out j (by rw [plain_length] at hj; omega))]
      have HE : Hid (fnd (plain ts) name = -1) := er
      clear HN er
      go_wp2
      go_ret
      exact ⟨by rw [HE.out]; rfl, rfl⟩
end Go.Proofs.Qxb6616086aFmt

import Derived.Test.Qxb6616487aRows
import Derived.WalkKit
import Derived.WalkSpells
import Derived.WalkLawsBesides
import Derived.Deep.QuietTactic
import Derived.BigQuiet
import Derived.Deep.OwnRows
import Derived.Deep.RegionHeld3
/-! THE ARGUMENT: a slice of slices of pairs, as it came in; and what later worlds still hold of it. -/
namespace Go.Proofs.Qxb6616487a
open Go.RowKit

abbrev Pairs := List (List (Int × Int))
def bAt (B : Pairs) (i : Nat) : List (Int × Int) := B.getD i []
def tsAt (B : Pairs) (i k : Nat) : Int := ((bAt B i).getD k (0, 0)).1
def rtsAt (B : Pairs) (i k : Nat) : Int := ((bAt B i).getD k (0, 0)).2
def lenAt (B : Pairs) (i : Nat) : Nat := (bAt B i).length

/-- The slice 'a' of n slices holds the pairs B: slice i is at 'A i', of capacity 'C i'. -/
structure InB (W : World) (a : Option Addr) (n : Nat) (A : Nat → Option Addr) (C : Nat → Nat) (B : Pairs) : Prop where
  len : B.length = n
  max : n ≤ maxLen
  row : ∀ i, i < n → ∃ b o, a = some ⟨b, o, none⟩ ∧ W.cell? ⟨b, o + i, none⟩ = some (.slice (A i) (lenAt B i) (C i)) ∧ lenAt B i ≤ maxLen
  elem : ∀ i k, i < n → k < lenAt B i → ∃ b o, A i = some ⟨b, o, none⟩ ∧ W.cell? ⟨b, o + k * 2, none⟩ = some (.int .i64 (tsAt B i k)) ∧ W.cell? ⟨b, o + k * 2 + 1, none⟩ = some (.int .i64 (rtsAt B i k))
    ∧ -9223372036854775808 ≤ tsAt B i k ∧ tsAt B i k ≤ 9223372036854775807

theorem InB.row' {W w : World} {a : Option Addr} {n : Nat} {A : Nat → Option Addr} {C : Nat → Nat} {B : Pairs} (h : InB W a n A C B) (hb : Below W.heap.size W w) {i : Nat} (hi : i < n) :
    ∃ b o, a = some ⟨b, o, none⟩ ∧ w.cell? ⟨b, o + i, none⟩ = some (.slice (A i) (lenAt B i) (C i)) ∧ lenAt B i ≤ maxLen := by
  obtain ⟨b, o, h1, h2, h3⟩ := h.row i hi
  exact ⟨b, o, h1, by rw [hb.cell (p := ⟨b, o + i, none⟩) (block_lt_of_cell h2)]; exact h2, h3⟩

theorem InB.elem' {W w : World} {a : Option Addr} {n : Nat} {A : Nat → Option Addr} {C : Nat → Nat} {B : Pairs} (h : InB W a n A C B) (hb : Below W.heap.size W w) {i k : Nat} (hi : i < n) (hk : k < lenAt B i) :
    ∃ b o, A i = some ⟨b, o, none⟩ ∧ w.cell? ⟨b, o + k * 2, none⟩ = some (.int .i64 (tsAt B i k)) ∧ w.cell? ⟨b, o + k * 2 + 1, none⟩ = some (.int .i64 (rtsAt B i k)) := by
  obtain ⟨b, o, h1, h2, h3, _⟩ := h.elem i k hi hk
  exact ⟨b, o, h1, by rw [hb.cell (p := ⟨b, o + k * 2, none⟩) (block_lt_of_cell h2)]; exact h2, by rw [hb.cell (p := ⟨b, o + k * 2 + 1, none⟩) (block_lt_of_cell h3)]; exact h3⟩

theorem ret_int {k : IntKind} {a b : Int} (h : a = b) : Ending.returned (.int k a) = .returned (.int k b) := by rw [h]

/-- The timestamps ahead of place k of slice i, in their order. -/
def pre (B : Pairs) (i k : Nat) : List Int := ((B.take i).flatten ++ (bAt B i).take k).map (·.1)
def flat (B : Pairs) : List Int := B.flatten.map (·.1)

theorem bAt_eq (B : Pairs) (i : Nat) (h : i < B.length) : bAt B i = B[i] := by simp [bAt, h]
theorem pre_zero (B : Pairs) : pre B 0 0 = [] := by simp [pre]
theorem pre_succ (B : Pairs) (i k : Nat) (h : k < lenAt B i) : pre B i (k + 1) = pre B i k ++ [tsAt B i k] := by
  unfold lenAt at h
  unfold pre
  rw [List.take_succ_eq_append_getElem h, ← List.append_assoc, List.map_append]
  simp [tsAt, h]
theorem pre_row (B : Pairs) (i : Nat) (h : i < B.length) : pre B (i + 1) 0 = pre B i (lenAt B i) := by
  unfold pre lenAt
  rw [List.take_succ_eq_append_getElem h, List.flatten_append, List.take_zero, List.append_nil, List.take_of_length_le (Nat.le_refl _), bAt_eq B i h]
  simp
theorem pre_end (B : Pairs) (i k : Nat) (h : B.length ≤ i) : pre B i k = flat B := by
  have : bAt B i = [] := by simp [bAt, h]
  simp [pre, flat, this, List.take_of_length_le h]
theorem pre_prefix (B : Pairs) (i k : Nat) : ∃ r, flat B = pre B i k ++ r := by
  by_cases hi : i < B.length
  · refine ⟨(((bAt B i).drop k) ++ (B.drop (i + 1)).flatten).map (·.1), ?_⟩
    unfold pre flat
    rw [← List.map_append]
    congr 1
    have e1 : B = B.take i ++ bAt B i :: B.drop (i + 1) := by rw [bAt_eq B i hi, ← List.drop_eq_getElem_cons hi, List.take_append_drop]
    have e2 : (bAt B i) = (bAt B i).take k ++ (bAt B i).drop k := (List.take_append_drop _ _).symm
    conv => lhs; rw [e1]
    rw [List.flatten_append, List.flatten_cons, List.append_assoc]
    congr 1
    rw [← List.append_assoc, ← e2]
  · exact ⟨[], by rw [pre_end B i k (by omega), List.append_nil]⟩
theorem flat_at (B : Pairs) (i k : Nat) (h : k < lenAt B i) : (flat B)[(pre B i k).length]? = some (tsAt B i k) := by
  obtain ⟨r, hr⟩ := pre_prefix B i (k + 1)
  rw [pre_succ B i k h] at hr
  rw [hr]
  simp

/-- Sizes that the law lets by. -/
def Fits (B : Pairs) (n : Nat) : Prop := n ≤ 65536 ∧ ∀ i, i < n → lenAt B i ≤ 65536

def GotBool (e : Ending) (w' W : World) (X : Prop) : Prop := ∃ r : Bool, e = .returned (.bool r) ∧ w' = W ∧ (r = true → X)
theorem gotFalse (W : World) (X : Prop) : GotBool (.returned (.bool false)) W W X := ⟨false, rfl, rfl, fun h => by cases h⟩
theorem gotTrue (W : World) {X : Prop} (h : X) : GotBool (.returned (.bool true)) W W X := ⟨true, rfl, rfl, fun _ => h⟩

set_option maxHeartbeats 400000 in
theorem bytes_any {W : World} {a : Option Addr} {n cap : Nat} {A : Nat → Option Addr} {C : Nat → Nat} {B : Pairs} (h : InB W a n A C B) (t1 t2 : Int) :
    Calls Try.prog 33 #[.slice a n cap, .int .i64 t1, .int .i64 t2] W fun e w' => GotBool e w' W True := by
  have hmax := h.max
  unfold maxLen at hmax
  have H : Hid (InB W a n A C B) := h
  clear h
  by_cases hbig : 1048576 < (n : Int)
  · go_enter Try.func33, Try.ntmps33
    go_wp2
    go_ret
    exact gotFalse _ _
  · go_enter Try.func33, Try.ntmps33
    go_wp2
    go_loop [7, 8] (fun z i => ∃ (k : Nat) (t : Int), k ≤ n ∧ i = .int .i64 k ∧ z = .int .i64 t ∧ 0 ≤ t ∧ t ≤ 1048576) (fun _ i => n - (intOf i).toNat)
    case atStart => exact ⟨0, n, Nat.zero_le _, rfl, rfl, by omega, by omega⟩
    case round =>
      obtain ⟨k, t, hk, rfl, rfl, ht0, ht1⟩ := hrel
      by_cases hlt : k < n
      · obtain ⟨b, o, rfl, hc, hm⟩ := H.out.row k hlt
        unfold maxLen at hm
        go_wp2
        · go_ret
          exact gotFalse _ _
        · go_ret
          exact gotFalse _ _
        · go_round
          case rel => exact ⟨k + 1, _, by omega, by go_num, rfl, by omega, by omega⟩
          case measure => simp [intOf]; omega
      · go_wp2
        go_ret
        exact gotTrue _ trivial

set_option maxHeartbeats 400000 in
theorem fit_any {W : World} {a : Option Addr} {n cap : Nat} {A : Nat → Option Addr} {C : Nat → Nat} {B : Pairs} (h : InB W a n A C B) :
    Calls Try.prog 23 #[.slice a n cap] W fun e w' => GotBool e w' W (Fits B n) := by
  have hmax := h.max
  unfold maxLen at hmax
  have H : Hid (InB W a n A C B) := h
  clear h
  go_enter Try.func23, Try.ntmps23
  go_wp2
  go_loop [3, 4] (fun z i => ∃ (k : Nat) (t : Int), k ≤ n ∧ i = .int .i64 k ∧ z = .int .i64 t ∧ 24 * (k : Int) ≤ t ∧ t ≤ 1048576 ∧ Hid (∀ j, j < k → lenAt B j ≤ 65536)) (fun _ i => n - (intOf i).toNat)
  case atStart => exact ⟨0, 0, Nat.zero_le _, rfl, rfl, by omega, by omega, fun j hj => by omega⟩
  case round =>
    obtain ⟨k, t, hk, rfl, rfl, ht0, ht1, HL⟩ := hrel
    by_cases hlt : k < n
    · obtain ⟨b, o, rfl, hc, hm⟩ := H.out.row k hlt
      unfold maxLen at hm
      go_wp2
      · go_ret
        exact gotFalse _ _
      · go_ret
        exact gotFalse _ _
      · go_round
        case rel => exact ⟨k + 1, _, by omega, by go_num, rfl, by omega, by omega, fun j hj => by
          by_cases e : j = k
          · subst e; omega
          · exact HL.out j (by omega)⟩
        case measure => simp [intOf]; omega
    · go_wp2
      go_ret
      exact gotTrue _ ⟨by omega, fun j hj => HL.out j (by omega)⟩

/-- What is known of the list of timestamps that have gone by: strictly rising; 'first': none has; else 'prev' is the last. -/
structure Gone (l : List Int) (prev : Int) (first : Bool) : Prop where
  up : l.Pairwise (· < ·)
  none : first = true → l = []
  last : first = false → l.getLast? = some prev

theorem Gone.push {l : List Int} {prev : Int} {first : Bool} (h : Gone l prev first) (v : Int) (hv : first = false → prev < v) : Gone (l ++ [v]) v false where
  up := by
    rw [List.pairwise_append]
    refine ⟨h.up, by simp, fun x hx y hy => ?_⟩
    obtain rfl : y = v := by simpa using hy
    cases hf : first with
    | true => rw [h.none hf] at hx; cases hx
    | false =>
      have h1 := h.last hf
      have h2 := hv hf
      rw [List.getLast?_eq_some_iff] at h1
      obtain ⟨ys, rfl⟩ := h1
      have h3 := h.up
      rw [List.pairwise_append] at h3
      rcases List.mem_append.1 hx with hx | hx
      · have := h3.2.2 x hx prev (by simp); omega
      · have : x = prev := by simpa using hx
        omega
  none := fun h => by cases h
  last := fun _ => by simp

/-- What the law lets by: something there, no slice empty, the timestamps strictly rising over all. -/
def Well (B : Pairs) (n : Nat) : Prop := 0 < n ∧ (∀ i, i < n → 0 < lenAt B i) ∧ (flat B).Pairwise (· < ·)

set_option maxHeartbeats 1000000 in
theorem well_any {W : World} {a : Option Addr} {n cap : Nat} {A : Nat → Option Addr} {C : Nat → Nat} {B : Pairs} (h : InB W a n A C B) (hfit : Fits B n) :
    Calls Try.prog 24 #[.slice a n cap] W fun e w' => GotBool e w' W (Well B n) := by
  have hn := hfit.1
  have HF : Hid (Fits B n) := hfit
  have H : Hid (InB W a n A C B) := h
  clear h hfit
  by_cases h0 : ((n : Int) == 0) = true
  · go_enter Try.func24, Try.ntmps24
    go_wp2
    go_ret
    exact gotFalse _ _
  · have h0 : ((n : Int) == 0) = false := by simpa using h0
    go_enter Try.func24, Try.ntmps24
    go_wp2
    go_loop [3, 4, 5, 6, 7] (fun p f i k v => ∃ (bi : Nat) (prev : Int) (first : Bool), bi ≤ n ∧ i = .int .i64 bi ∧ p = .int .i64 prev ∧ f = .bool first ∧ Hid (Gone (pre B bi 0) prev first) ∧ Hid (∀ j, j < bi → 0 < lenAt B j)) (fun _ _ i _ _ => n - (intOf i).toNat)
    case atStart => exact ⟨0, 0, true, Nat.zero_le _, rfl, rfl, rfl, ⟨by rw [pre_zero]; exact List.Pairwise.nil, fun _ => pre_zero B, fun h => by cases h⟩, fun j hj => by omega⟩
    case round =>
      obtain ⟨bi, prev, first, hbi, rfl, rfl, rfl, HG, HL⟩ := hrel
      by_cases hlt : bi < n
      · obtain ⟨b, o, rfl, hc, hm⟩ := H.out.row bi hlt
        have hl := HF.out.2 bi hlt
        clear hm
        by_cases hz : ((lenAt B bi : Int) == 0) = true
        · go_wp2
          go_ret
          exact gotFalse _ _
        · have hz : ((lenAt B bi : Int) == 0) = false := by simpa using hz
          go_wp2
          go_loop [3, 4, 6, 7] (fun p f i v => ∃ (k : Nat) (prev : Int) (first : Bool), k ≤ lenAt B bi ∧ i = .int .i64 k ∧ p = .int .i64 prev ∧ f = .bool first ∧ Hid (Gone (pre B bi k) prev first)) (fun _ _ i _ => lenAt B bi - (intOf i).toNat)
          case atStart => exact ⟨0, prev, first, Nat.zero_le _, rfl, rfl, rfl, HG⟩
          case round =>
            clear HG
            obtain ⟨k, prev, first, hk, rfl, rfl, rfl, HG⟩ := hrel
            by_cases hlk : k < lenAt B bi
            · obtain ⟨b2, o2, hA, hc2, hc3, _⟩ := H.out.elem bi k hlt hlk
              have hps := pre_succ B bi k hlk
              obtain ⟨v, ev⟩ : ∃ v, v = tsAt B bi k := ⟨_, rfl⟩
              rw [← ev] at hc2 hps
              have PS : Hid (pre B bi (k + 1) = pre B bi k ++ [v]) := hps
              clear hps ev hc3
              cases first with
              | true =>
                have NG : Hid (Gone (pre B bi (k + 1)) v false) := by show Gone _ _ _; rw [PS.out]; exact HG.out.push v (fun h => by cases h)
                go_wp2
                go_round
                case rel => exact ⟨k + 1, v, false, by omega, by go_num, rfl, rfl, NG⟩
                case measure => simp [intOf]; omega
              | false =>
                by_cases hv : v ≤ prev
                · go_wp2
                  go_ret
                  exact gotFalse _ _
                · have NG : Hid (Gone (pre B bi (k + 1)) v false) := by show Gone _ _ _; rw [PS.out]; exact HG.out.push v (fun _ => by omega)
                  go_wp2
                  go_round
                  case rel => exact ⟨k + 1, v, false, by omega, by go_num, rfl, rfl, NG⟩
                  case measure => simp [intOf]; omega
            · have hke : k = lenAt B bi := by omega
              have NG : Hid (Gone (pre B (bi + 1) 0) prev first) := by show Gone _ _ _; rw [pre_row B bi (by rw [H.out.len]; exact hlt), ← hke]; exact HG.out
              clear hke
              go_wp2
              go_round
              case rel => exact ⟨bi + 1, prev, first, by omega, by go_num, rfl, rfl, NG, fun j hj => by
                by_cases e : j = bi
                · subst e; simp at hz; omega
                · exact HL.out j (by omega)⟩
              case measure => simp [intOf]; omega
      · go_wp2
        go_ret
        have e : bi = n := by omega
        refine gotTrue _ ⟨by simp at h0; omega, fun i hi => HL.out i (by omega), ?_⟩
        rw [← pre_end B bi 0 (by rw [H.out.len]; omega)]
        exact HG.out.up

def GotPlace (e : Ending) (w' W : World) (B : Pairs) (ts : Int) : Prop := ∃ r : Int, e = .returned (.int .i64 r) ∧ w' = W ∧ (0 < r → r < 9223372036854775807 ∧ (flat B)[r.toNat]? = some ts)

theorem pre_len_row (B : Pairs) (n i : Nat) (hn : B.length = n) (hf : Fits B n) : i ≤ n → (pre B i 0).length ≤ i * 65536 := by
  induction i with
  | zero => intro _; simp [pre_zero]
  | succ i ih =>
    intro h
    have h1 := ih (by omega)
    have h2 := hf.2 i (by omega)
    rw [pre_row B i (by omega)]
    have h3 : (pre B i (lenAt B i)).length = (pre B i 0).length + lenAt B i := by simp [pre, lenAt]
    omega

theorem pre_len (B : Pairs) (n i k : Nat) (hn : B.length = n) (hf : Fits B n) (hi : i < n) (hk : k ≤ lenAt B i) : (pre B i k).length ≤ 4294967296 := by
  have h1 := pre_len_row B n i hn hf (by omega)
  have h2 := hf.2 i hi
  have h3 : (pre B i k).length ≤ (pre B i 0).length + k := by simp [pre]; omega
  have h4 := hf.1
  have h5 : i * 65536 ≤ 65535 * 65536 := Nat.mul_le_mul_right _ (by omega)
  omega

set_option maxHeartbeats 1000000 in
theorem place_any {W : World} {a : Option Addr} {n cap : Nat} {A : Nat → Option Addr} {C : Nat → Nat} {B : Pairs} (h : InB W a n A C B) (hfit : Fits B n) (ts : Int) :
    Calls Try.prog 25 #[.slice a n cap, .int .i64 ts] W fun e w' => GotPlace e w' W B ts := by
  have hn := hfit.1
  have HF : Hid (Fits B n) := hfit
  have H : Hid (InB W a n A C B) := h
  clear h hfit
  go_enter Try.func25, Try.ntmps25
  go_wp2
  go_loop [5, 6, 7] (fun f i k => ∃ (bi : Nat), bi ≤ n ∧ i = .int .i64 bi ∧ f = .int .i64 ((pre B bi 0).length : Nat)) (fun _ i _ => n - (intOf i).toNat)
  case atStart => exact ⟨0, Nat.zero_le _, rfl, by rw [pre_zero]; rfl⟩
  case round =>
    obtain ⟨bi, hbi, rfl, rfl⟩ := hrel
    by_cases hlt : bi < n
    · obtain ⟨b, o, rfl, hc, hm⟩ := H.out.row bi hlt
      have hl := HF.out.2 bi hlt
      clear hm
      go_wp2
      go_loop [5, 7] (fun f i => ∃ (k : Nat), k ≤ lenAt B bi ∧ i = .int .i64 k ∧ f = .int .i64 ((pre B bi k).length : Nat)) (fun _ i => lenAt B bi - (intOf i).toNat)
      case atStart => exact ⟨0, Nat.zero_le _, rfl, rfl⟩
      case round =>
        obtain ⟨k, hk, rfl, rfl⟩ := hrel
        have hpl := pre_len B n bi k H.out.len HF.out hlt hk
        by_cases hlk : k < lenAt B bi
        · obtain ⟨b2, o2, hA, hc2, _, _⟩ := H.out.elem bi k hlt hlk
          have FA : Hid ((flat B)[(pre B bi k).length]? = some (tsAt B bi k)) := flat_at B bi k hlk
          have PS : Hid ((pre B bi (k + 1)).length = (pre B bi k).length + 1) := by show _ = _; rw [pre_succ B bi k hlk]; simp
          obtain ⟨q, eq⟩ : ∃ q, q = (pre B bi k).length := ⟨_, rfl⟩
          rw [← eq] at FA PS hpl ⊢
          by_cases hv : (tsAt B bi k == ts) = true
          · have hv' : tsAt B bi k = ts := by simpa using hv
            rw [hv'] at FA hc2
            clear eq hv hv'
            go_wp2
            go_ret
            exact ⟨q, rfl, rfl, fun _ => ⟨by omega, FA.out⟩⟩
          · have hv : (tsAt B bi k == ts) = false := by simpa using hv
            clear eq
            go_wp2
            go_round
            case rel => exact ⟨k + 1, by omega, by go_num, by rw [PS.out]; go_num⟩
            case measure => simp [intOf]; omega
        · have hke : k = lenAt B bi := by omega
          have PR : Hid ((pre B (bi + 1) 0).length = (pre B bi k).length) := by show _ = _; rw [pre_row B bi (by rw [H.out.len]; exact hlt), ← hke]
          clear hke
          go_wp2
          go_round
          case rel => exact ⟨bi + 1, by omega, by go_num, by rw [PR.out]⟩
          case measure => simp [intOf]; omega
    · go_wp2
      go_ret
      exact ⟨-1, rfl, rfl, fun h => by omega⟩
end Go.Proofs.Qxb6616487a

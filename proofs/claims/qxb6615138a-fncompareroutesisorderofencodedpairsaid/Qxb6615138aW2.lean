import Derived.Test.Qxb6615138aW1
import Derived.ArgAppend
import Derived.Deep.OwnRows
import Derived.Lib.LazyBuf
/-! THE WALKS of the encoding and of the comparison of byte slices. -/
namespace Go.Proofs.Qxb6615138a
open Go.RowKit

theorem info5 : ∃ i0, Try.prog.info? 5 = some i0 ∧ i0.size = 1 := by
  have h : (Try.prog.info? 5).map (·.size) = some 1 := by kernel_rfl
  cases hq : Try.prog.info? 5 with
  | none => rw [hq] at h; cases h
  | some i => rw [hq] at h; exact ⟨i, rfl, by simpa using h⟩

/-- append where there is room, at []byte. -/
theorem wpList_room {ops : Array Oper} {rest : List Oper} {o : Oper} {a : Act} {w : World} {Q : Exit → Act → World → Prop} (hgd : o.guard = none) (s x : Operand)
    (hop : o.op = Op.call { callee := Callee.builtin Builtin.append, args := #[s, x], argTypes := #[24, 24] })
    (b n cap : Nat) (hs : a.eval s = .slice (some ⟨b, 0, none⟩) n cap) (ad : Addr) (m c : Nat) (hx : a.eval x = .slice (some ad) m c) (news : List Value) (hl : news.length = m)
    (hc : ∀ j u, news[j]? = some u → w.cell? (ad.add j) = some u) (h1 : ∀ u ∈ news, u.oneCell' = true) (hroom : n + m ≤ cap)
    (hsp : ∀ j, j < news.length → (w.cell? ⟨b, n + j, none⟩).isSome = true ∧ w.frozen? ⟨b, n + j, none⟩ = false)
    (h : wpList Try.prog ops Q rest (a.put o.dst (.slice (some ⟨b, 0, none⟩) (n + m) cap)) (w.setCells b n news)) : wpList Try.prog ops Q (o :: rest) a w :=
  wpList_plain hgd fun K hK => by
    obtain ⟨i0, hi, hz⟩ := info5
    have hrun := run_append_room_cells (P := Try.prog) w 24 o.type 5 i0 Try.underlying24 hi b 0 n cap ad m c news (by rw [hz, Nat.mul_one]; exact hl) hc h1 hroom (fun j hj => by rw [hz, Nat.mul_one, Nat.zero_add]; exact (hsp j hj).1) (fun j hj => by rw [hz, Nat.mul_one, Nat.zero_add]; exact (hsp j hj).2)
    rw [hz, Nat.mul_one, Nat.zero_add] at hrun
    unfold Oper.wp
    simp [execOp, hop, resolve, invoke, builtin, hs, hx, hrun, Result.andThen]
    exact hK _ _ h

def byteV (c : UInt8) : Value := .int .u8 (c.toNat : Int)

/-- Block g is an array of cap bytes that begins with L. -/
def BufIs (w : World) (g cap : Nat) (L : List UInt8) : Prop := ∃ f, w.rowIs g 5 cap f ∧ L.length ≤ cap ∧ ∀ i, i < L.length → f i = byteV (L.getD i 0)

theorem BufIs.cell {w : World} {g cap : Nat} {L : List UInt8} (h : BufIs w g cap L) {i : Nat} (hi : i < L.length) : w.cell? ⟨g, i, none⟩ = some (.int .u8 ((L.getD i 0).toNat : Int)) := by
  obtain ⟨f, h1, h2, h3⟩ := h
  rw [h1.cell (by omega), h3 i hi]; rfl
theorem BufIs.spare {w : World} {g cap : Nat} {L : List UInt8} (h : BufIs w g cap L) {i : Nat} (hi : i < cap) : (w.cell? ⟨g, i, none⟩).isSome = true ∧ w.frozen? ⟨g, i, none⟩ = false := by
  obtain ⟨f, h1, _, _⟩ := h
  exact ⟨by rw [h1.cell hi]; rfl, h1.frozen i⟩
theorem BufIs.lt {w : World} {g cap : Nat} {L : List UInt8} (h : BufIs w g cap L) : g < w.heap.size := by
  obtain ⟨f, h1, _, _⟩ := h
  exact h1.lt
theorem BufIs.of_block {w w' : World} {g cap : Nat} {L : List UInt8} (h : BufIs w g cap L) (e : w'.heap[g]? = w.heap[g]?) : BufIs w' g cap L := by
  obtain ⟨f, h1, h2, h3⟩ := h
  exact ⟨f, h1.of_block e, h2, h3⟩
theorem BufIs.push {w : World} {g cap : Nat} {L : List UInt8} (h : BufIs w g cap L) (M : List UInt8) (hr : L.length + M.length ≤ cap) : BufIs (w.setCells g L.length (M.map byteV)) g cap (L ++ M) := by
  obtain ⟨f, h1, h2, h3⟩ := h
  refine ⟨_, rowIs_setCells (M.map byteV) L.length w f h1, by rw [List.length_append]; exact hr, fun i hi => ?_⟩
  rw [List.length_append] at hi
  by_cases c : L.length ≤ i
  · rw [if_pos ⟨c, by rw [List.length_map]; exact hi⟩, List.getD_eq_getElem?_getD, List.getElem?_append_right c, List.getElem?_map, List.getElem?_eq_getElem (by omega)]
    rfl
  · rw [if_neg (by omega), h3 i (by omega), List.getD_eq_getElem?_getD, List.getD_eq_getElem?_getD, List.getElem?_append_left (by omega)]

theorem grown_setCells {w : World} {b : Nat} : ∀ (vs : List Value) (o : Nat) (w' : World), w.grownBy w' (some b) → w.grownBy (w'.setCells b o vs) (some b)
  | [], _, _, h => h
  | v :: r, o, w', h => grown_setCells r (o + 1) _ ⟨h.os, h.tape, h.output, by simpa using h.size, fun k hk hne => (heap_setCell_other _ _ _ _ (fun e => hne (by rw [e]))).trans (h.block k hk hne)⟩
theorem grown_alloc {w w' : World} {b : Nat} (h : w.grownBy w' (some b)) (o : Obj) : w.grownBy (w'.alloc o) (some b) :=
  ⟨h.os, h.tape, h.output, Nat.le_trans h.size (by simp), fun k hk hne => (Below.heap_alloc _ _ _ (by have := h.size; omega)).trans (h.block k hk hne)⟩
theorem BufIs.alloc {w : World} {g cap : Nat} {L : List UInt8} (h : BufIs w g cap L) (o : Obj) : BufIs (w.alloc o) g cap L := h.of_block (Below.heap_alloc _ _ _ h.lt)

theorem esc_take (s : ByteArray) (k : Nat) (h : k < s.size) : esc (s.data.toList.take (k + 1)) = esc (s.data.toList.take k) ++ (if s[k] = 0 then [0, 255] else [s[k]]) := by
  have h' : k < s.data.toList.length := h
  rw [List.take_succ_eq_append_getElem h', esc_snoc]
  rfl

/-- The cells of a new block of bytes. -/
theorem cells_new (w : World) (M : List UInt8) (j : Nat) (u : Value) (h : (M.map byteV)[j]? = some u) : (w.alloc (.cells (M.map byteV).toArray 5)).cell? ((⟨w.heap.size, 0, none⟩ : Addr).add j) = some u := by
  rw [Addr.add_mid, Nat.zero_add, cell_of_row _ _ _ _ _ _ (heap_alloc_new w _)]
  simpa using h

set_option maxHeartbeats 1000000 in
theorem esc_any (s : ByteArray) (g cap : Nat) (L : List UInt8) (w : World) (_hs : s.size ≤ 65536) (_hcap : cap ≤ 1000000) (hb : BufIs w g cap L) (hr : L.length + 2 * s.size + 2 ≤ cap) :
    Calls Try.prog 10 #[.slice (some ⟨g, 0, none⟩) L.length cap, .string s] w fun e w' => e = .returned (.slice (some ⟨g, 0, none⟩) (L ++ encS s.data.toList).length cap) ∧ BufIs w' g cap (L ++ encS s.data.toList) ∧ w.grownBy w' (some g) := by
  have HB : Hid (BufIs w g cap L) := hb
  clear hb
  go_enter Try.func10, Try.ntmps10
  go_wp2
  go_loopw [0, 5] (fun v i wr => ∃ (k n : Nat), k ≤ s.size ∧ i = .int .i64 k ∧ v = .slice (some ⟨g, 0, none⟩) n cap ∧ Hid (n = (L ++ esc (s.data.toList.take k)).length) ∧ n ≤ L.length + 2 * k ∧ Hid (BufIs wr g cap (L ++ esc (s.data.toList.take k))) ∧ Hid (w.grownBy wr (some g))) (fun _ i _ => s.size - (intOf i).toNat)
  case atStart => exact ⟨0, L.length, Nat.zero_le _, rfl, rfl, by show _ = _; simp [esc], by omega, by show BufIs _ _ _ _; simpa [esc] using HB.out, ⟨rfl, rfl, rfl, Nat.le_refl _, fun _ _ _ => rfl⟩⟩
  case round =>
    obtain ⟨k, n, hk, rfl, rfl, HN, hnl, HBk, HG⟩ := hrel
    have hn := HN.out
    by_cases hlt : k < s.size
    · have ET : Hid (esc (s.data.toList.take (k + 1)) = esc (s.data.toList.take k) ++ (if s[k] = 0 then [0, 255] else [s[k]])) := esc_take s k hlt
      by_cases hz : s[k] = 0
      · have hz' : ((s[k].toNat : Int) == 0) = true := by rw [hz]; rfl
        have eM : ([0, 255] : List UInt8).map byteV = [.int .u8 0, .int .u8 255] := rfl
        have P1 := (HBk.out.alloc (.cells (([0, 255] : List UInt8).map byteV).toArray 5)).push [0, 255] (by rw [← hn]; simp; omega)
        rw [← hn, eM] at P1
        have NB : Hid (BufIs ((wr.alloc (.cells ([.int .u8 0, .int .u8 255] : List Value).toArray 5)).setCells g n [.int .u8 0, .int .u8 255]) g cap (L ++ esc (s.data.toList.take (k + 1)))) := by
          show BufIs _ _ _ _
          rw [ET.out, if_pos hz, ← List.append_assoc]; exact P1
        have NN : Hid (n + 2 = (L ++ esc (s.data.toList.take (k + 1))).length) := by
          show _ = _
          rw [ET.out, if_pos hz, ← List.append_assoc]; rw [List.length_append, ← hn]; rfl
        have NG : Hid (w.grownBy ((wr.alloc (.cells ([.int .u8 0, .int .u8 255] : List Value).toArray 5)).setCells g n [.int .u8 0, .int .u8 255]) (some g)) := grown_setCells _ _ _ (grown_alloc HG.out _)
        have SP : Hid (∀ j, j < ([.int .u8 0, .int .u8 255] : List Value).length → ((wr.alloc (.cells ([.int .u8 0, .int .u8 255] : List Value).toArray 5)).cell? ⟨g, n + j, none⟩).isSome = true ∧ (wr.alloc (.cells ([.int .u8 0, .int .u8 255] : List Value).toArray 5)).frozen? ⟨g, n + j, none⟩ = false) := fun j hj => (HBk.out.alloc _).spare (by simp at hj; omega)
        clear P1 hn eM
        clear hz
        go_wp2_with (at_builtin; refine wpList_room rfl (.tmp 18) (.tmp 19) rfl g n cap rfl ⟨wr.heap.size, 0, none⟩ 2 2 rfl [.int .u8 0, .int .u8 255] rfl (fun j u hu => cells_new wr [0, 255] j u hu) (by intro u hu; simp at hu; first | (rcases hu with rfl | rfl <;> rfl) | (subst hu; rfl)) (by omega) SP.out ?_)
        go_roundw
        case rel => exact ⟨k + 1, n + 2, by omega, by go_num, rfl, NN, by omega, NB, NG⟩
        case measure => simp [intOf]; omega
      · have hz' : ((s[k].toNat : Int) == 0) = false := by
          simp
          exact fun q => hz (UInt8.toNat_inj.1 (by simpa using q))
        have eM : ([s[k]] : List UInt8).map byteV = [.int .u8 (s[k].toNat : Int)] := rfl
        have P1 := (HBk.out.alloc (.cells (([s[k]] : List UInt8).map byteV).toArray 5)).push [s[k]] (by rw [← hn]; simp; omega)
        rw [← hn, eM] at P1
        have NB : Hid (BufIs ((wr.alloc (.cells ([.int .u8 (s[k].toNat : Int)] : List Value).toArray 5)).setCells g n [.int .u8 (s[k].toNat : Int)]) g cap (L ++ esc (s.data.toList.take (k + 1)))) := by
          show BufIs _ _ _ _
          rw [ET.out, if_neg hz, ← List.append_assoc]; exact P1
        have NN : Hid (n + 1 = (L ++ esc (s.data.toList.take (k + 1))).length) := by
          show _ = _
          rw [ET.out, if_neg hz, ← List.append_assoc]; rw [List.length_append, ← hn]; rfl
        have NG : Hid (w.grownBy ((wr.alloc (.cells ([.int .u8 (s[k].toNat : Int)] : List Value).toArray 5)).setCells g n [.int .u8 (s[k].toNat : Int)]) (some g)) := grown_setCells _ _ _ (grown_alloc HG.out _)
        have SP : Hid (∀ j, j < ([.int .u8 (s[k].toNat : Int)] : List Value).length → ((wr.alloc (.cells ([.int .u8 (s[k].toNat : Int)] : List Value).toArray 5)).cell? ⟨g, n + j, none⟩).isSome = true ∧ (wr.alloc (.cells ([.int .u8 (s[k].toNat : Int)] : List Value).toArray 5)).frozen? ⟨g, n + j, none⟩ = false) := fun j hj => (HBk.out.alloc _).spare (by simp at hj; omega)
        clear P1 hn eM
        clear hz
        go_wp2_with (at_builtin; refine wpList_room rfl (.tmp 21) (.tmp 23) rfl g n cap rfl ⟨wr.heap.size, 0, none⟩ 1 1 rfl [.int .u8 (s[k].toNat : Int)] rfl (fun j u hu => cells_new wr [s[k]] j u hu) (by intro u hu; simp at hu; first | (rcases hu with rfl | rfl <;> rfl) | (subst hu; rfl)) (by omega) SP.out ?_)
        go_roundw
        case rel => exact ⟨k + 1, n + 1, by omega, by go_num, rfl, NN, by omega, NB, NG⟩
        case measure => simp [intOf]; omega
    · have ek : k = s.size := by omega
      have et : s.data.toList.take k = s.data.toList := List.take_of_length_le (by rw [ek]; exact Nat.le_refl _)
      rw [et] at HBk hn
      have eM : ([0, 0] : List UInt8).map byteV = [.int .u8 0, .int .u8 0] := rfl
      have P1 := (HBk.out.alloc (.cells (([0, 0] : List UInt8).map byteV).toArray 5)).push [0, 0] (by rw [← hn]; simp; omega)
      rw [← hn, eM] at P1
      have NB : Hid (BufIs ((wr.alloc (.cells ([.int .u8 0, .int .u8 0] : List Value).toArray 5)).setCells g n [.int .u8 0, .int .u8 0]) g cap (L ++ encS s.data.toList)) := by
        show BufIs _ _ _ _
        unfold encS; rw [← List.append_assoc]; exact P1
      have NN : Hid (n + 2 = (L ++ encS s.data.toList).length) := by
        show _ = _
        unfold encS; rw [← List.append_assoc]; rw [List.length_append, ← hn]; rfl
      have NG : Hid (w.grownBy ((wr.alloc (.cells ([.int .u8 0, .int .u8 0] : List Value).toArray 5)).setCells g n [.int .u8 0, .int .u8 0]) (some g)) := grown_setCells _ _ _ (grown_alloc HG.out _)
      have SP : Hid (∀ j, j < ([.int .u8 0, .int .u8 0] : List Value).length → ((wr.alloc (.cells ([.int .u8 0, .int .u8 0] : List Value).toArray 5)).cell? ⟨g, n + j, none⟩).isSome = true ∧ (wr.alloc (.cells ([.int .u8 0, .int .u8 0] : List Value).toArray 5)).frozen? ⟨g, n + j, none⟩ = false) := fun j hj => (HBk.out.alloc _).spare (by simp at hj; omega)
      clear P1 hn eM
      clear et ek
      go_wp2_with (at_builtin; refine wpList_room rfl (.tmp 25) (.tmp 26) rfl g n cap rfl ⟨wr.heap.size, 0, none⟩ 2 2 rfl [.int .u8 0, .int .u8 0] rfl (fun j u hu => cells_new wr [0, 0] j u hu) (by intro u hu; simp at hu; first | (rcases hu with rfl | rfl <;> rfl) | (subst hu; rfl)) (by omega) SP.out ?_)
      go_ret
      exact ⟨by rw [← NN.out]; rfl, NB.out, NG.out⟩

theorem make_buf (n : Nat) (hn : n ≤ 1000000) (w : World) :
    (Instr.makeSlice 24 (.int .i64 0) (.int .i64 (n : Int))).run Try.prog w = .ok (.slice (some ⟨w.heap.size, 0, none⟩) 0 n) (w.alloc (.cells (madeCells #[.int .u8 0] n) 5)) := by
  have hinfo : (Try.prog.info? 5).map (fun i => (i.zero, i.size, i.bytes)) = some (some (.int .u8 0), 1, 1) := by kernel_rfl
  obtain ⟨i, hi, hzz⟩ := Option.map_eq_some_iff.1 hinfo
  simp only [Prod.mk.injEq] at hzz
  obtain ⟨hz, hs, hb⟩ := hzz
  have hr := run_make (P := Try.prog) w 24 5 i _ Try.underlying24 hi hz .i64 .i64 0 n (by omega) (by omega) (by rw [hb]; omega) (by omega)
  simp only [Int.toNat_natCast, hs, Int.toNat_zero, Nat.mul_one] at hr
  exact hr

theorem BufIs.of_below {w w' : World} {g cap : Nat} {L : List UInt8} (h : BufIs w g cap L) (hb : Below w.heap.size w w') : BufIs w' g cap L := h.of_block (hb.block _ h.lt)

def GotBuf (e : Ending) (w w' : World) (L : List UInt8) : Prop := ∃ g cap, e = .returned (.slice (some ⟨g, 0, none⟩) L.length cap) ∧ BufIs w' g cap L ∧ cap ≤ 1000000 ∧ Below w.heap.size w w'

set_option maxHeartbeats 1000000 in
theorem enc_any (r d : ByteArray) (w : World) (hr : r.size ≤ 65536) (hd : d.size ≤ 65536) :
    Calls Try.prog 7 #[.string r, .string d] w fun e w' => GotBuf e w w' (encP r.data.toList d.data.toList) := by
  have mk := make_buf (2 * r.size + 2 * d.size + 4) (by omega)
  have ec : ((2 * r.size + 2 * d.size + 4 : Nat) : Int) = 2 * (r.size : Int) + 2 * (d.size : Int) + 4 := by omega
  rw [ec] at mk
  clear ec
  have hl1 := esc_le r.data.toList
  have hl2 := esc_le d.data.toList
  have e1 : r.data.toList.length = r.size := rfl
  have e2 : d.data.toList.length = d.size := rfl
  have B0 : Hid (BufIs (w.alloc (.cells (madeCells #[.int .u8 0] (2 * r.size + 2 * d.size + 4)) 5)) w.heap.size (2 * r.size + 2 * d.size + 4) []) := ⟨_, World.rowIs_made w _ _ _, by simp, fun i hi => by simp at hi⟩
  have HL : Hid ((encS r.data.toList).length ≤ 2 * r.size + 2) := by show _ ≤ _; unfold encS; simp; omega
  clear hl1 hl2 e1 e2
  go_enter Try.func7, Try.ntmps7
  go_wp2_with fail
  refine (esc_any r w.heap.size (2 * r.size + 2 * d.size + 4) [] _ hr (by omega) B0.out (by simp; omega)).mono ?_
  rintro e w1 ⟨rfl, hb1, hg1⟩
  rw [List.nil_append] at hb1 ⊢
  have HB1 : Hid (BufIs w1 w.heap.size (2 * r.size + 2 * d.size + 4) (encS r.data.toList)) := hb1
  clear hb1
  go_wp2_with fail
  refine (esc_any d w.heap.size (2 * r.size + 2 * d.size + 4) (encS r.data.toList) _ hd (by omega) HB1.out (by have := HL.out; omega)).mono ?_
  rintro e w2 ⟨rfl, hb2, hg2⟩
  have HB2 : Hid (BufIs w2 w.heap.size (2 * r.size + 2 * d.size + 4) (encS r.data.toList ++ encS d.data.toList)) := hb2
  clear hb2
  go_wp2
  go_ret
  refine ⟨w.heap.size, 2 * r.size + 2 * d.size + 4, by unfold encP; rw [List.length_append]; rfl, HB2.out, by omega, ?_⟩
  exact (((Below.refl _ w).alloc (Nat.le_refl _) _).grown hg1 (by simp) (by intro k hk; cases hk; exact Nat.le_refl _)).grown hg2 (by have := hg1.size; simp at this; omega) (by intro k hk; cases hk; exact Nat.le_refl _)
end Go.Proofs.Qxb6615138a

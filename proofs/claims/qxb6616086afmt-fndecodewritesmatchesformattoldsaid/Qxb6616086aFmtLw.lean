import Derived.Test.Qxb6616086aFmtNl
import Derived.Test.Qxb6616086aFmtSu
/-! THE WALK of FnDecodeWritesMatchesFormat. -/
namespace Go.Proofs.Qxb6616086aFmt
open Go.RowKit Go.Maps Go.Stop Go.Extern.Stop Go.Extern

theorem len_plain {ts1 ts2 : List MTab} (h : plain ts1 = plain ts2) : ts1.length = ts2.length := by
  have := congrArg List.length h
  rwa [plain_length, plain_length] at this
theorem clen_plain {ts1 ts2 : List MTab} (h : plain ts1 = plain ts2) (i : Nat) : (tabAt ts1 i).cs.length = (tabAt ts2 i).cs.length := by
  rw [← cs_pl, ← cs_pl, h]

/-- What stands while the payload's copy is overwritten. -/
structure LawW (w wr : World) (g n B1 B2 : Nat) (wv gv : Value) (ts1 ts2 : List MTab) : Prop where
  below : Below w.heap.size w wr
  row : ∃ v : Nat → Int, wr.rowIs g 5 n (fun i => .int .u8 (v i))
  glo : w.heap.size ≤ g
  g1 : g < B1
  g2 : g < B2
  want : TabsIs wr B1 42 3 51 wv ts1
  got : TabsIs wr B2 42 3 51 gv ts2

theorem LawW.set {w wr : World} {g n B1 B2 : Nat} {wv gv : Value} {ts1 ts2 : List MTab} (h : LawW w wr g n B1 B2 wv gv ts1 ts2) (k : Nat) (x : Int) : LawW w (wr.setCell ⟨g, k, none⟩ (.int .u8 x)) g n B1 B2 wv gv ts1 ts2 := by
  obtain ⟨v, hr⟩ := h.row
  have hr' := hr
  obtain ⟨c, hc, _⟩ := hr'
  refine ⟨h.below.setCell h.glo _, ⟨fun i => if i = k then x else v i, (hr.set k _).congr fun i _ => ?_⟩, h.glo, h.g1, h.g2, h.want.kept (TKeep.set hc (by decide) (by decide) (fun _ => h.g1) k _), h.got.kept (TKeep.set hc (by decide) (by decide) (fun _ => h.g2) k _)⟩
  by_cases e : i = k
  · simp [e]
  · simp [e]

set_option maxHeartbeats 4000000 in
set_option maxRecDepth 100000 in
theorem law_some (F : Interp) (a : Addr) (n c : Nat) (l : List UInt8) (w : World) (hF : F.answers w.tape) (en : n = l.length) (hmax : n ≤ maxLen) (hc : ∀ i, i < l.length → w.cell? (a.add i) = some (byteV (l.getD i 0))) :
    Calls Tryf.prog 3 #[.slice (some a) n c] w fun e w' => e = .returned (.bool true) ∧ Below w.heap.size w w' := by
  have K5 := zzBytes_any (some a) n c w hmax
  have HC : Hid (∀ i, i < l.length → w.cell? (a.add i) = some (byteV (l.getD i 0))) := hc
  have HEN : Hid (n = l.length) := en
  have HF : Hid (F.answers w.tape) := hF
  unfold maxLen at hmax
  clear hc en hF
  go_enter Tryf.func3, Tryf.ntmps3
  go_wp2_with fail
  refine K5.mono ?_
  rintro e' w' ⟨r, rfl, ew⟩
  subst w'
  clear K5
  cases r with
  | false =>
    go_wp2
    go_ret
    exact ⟨rfl, Below.refl _ _⟩
  | true =>
    by_cases hbig : 65536 < n
    · go_wp2
      go_ret
      exact ⟨rfl, Below.refl _ _⟩
    · have hn6 : n ≤ 65536 := by omega
      have K6 := zzClone_any a c l w (by have := HEN.out; omega) HC.out
      rw [← HEN.out] at K6
      go_wp2_with fail
      refine K6.mono ?_
      rintro e' w1 ⟨g, rfl, hg, hby1, hb1⟩
      have hlen6 : l.length ≤ 65536 := by have := HEN.out; omega
      have K7 := model_any g l w1 hlen6 hby1
      have HG : Hid (w.heap.size ≤ g ∧ BytesAt w1 g l ∧ Below w.heap.size w w1) := ⟨hg, hby1, hb1⟩
      rw [← HEN.out] at K7 ⊢
      clear K6 hg hby1 hb1
      go_wp2_with fail
      refine K7.mono ?_
      rintro e' w2 ⟨wv, ts1, bad, rfl, ht2, he2, hb2⟩
      have hby2 : BytesAt w2 g l := HG.out.2.1.of_block (hb2.block g HG.out.2.1.lt)
      have hB2 : Below w.heap.size w w2 := HG.out.2.2.trans (hb2.mono HG.out.2.2.size)
      have K8 := zzdw_any F g l w2 (by rw [hB2.tape]; exact HF.out) hlen6 hby2
      have HW : Hid (TabsIs w2 w1.heap.size 42 3 51 wv ts1 ∧ Ends l (plain ts1) bad ∧ Below w.heap.size w w2 ∧ g < w1.heap.size ∧ g < w2.heap.size ∧ BytesAt w2 g l) := ⟨ht2, he2, hB2, HG.out.2.1.lt, hby2.lt, hby2⟩
      rw [← HEN.out] at K8
      clear K7 ht2 he2 hb2 hby2 hB2
      go_wp2_with fail
      refine K8.mono ?_
      rintro e' w3 ⟨tv3, xv3, ts3, ev, bad3, rfl, ht3, hb3, he3, hev, hl3, hc3, hxo⟩
      have hto : tv3.oneCell' = true := by rcases ht3.row with ⟨rfl, _⟩ | ⟨g, cap, rfl, _⟩ <;> rfl
      have hb4 : Below w3.heap.size w3 (w3.alloc (.cells #[tv3, xv3] 31)) := (Below.refl _ w3).alloc (Nat.le_refl _) _
      have K9 := tables_any w2.heap.size tv3 xv3 ts3 (w3.alloc (.cells #[tv3, xv3] 31)) (Nat.le_trans hb3.size hb4.size) hl3 hc3 (ht3.of_below hb4)
      have st0 : ∀ (x : World) (a : Addr), (store a tv3).run Tryf.prog x = stored Tryf.prog x a tv3 .plain := fun x a => run_store _ x a tv3 _ hto
      have st1 : ∀ (x : World) (a : Addr), (store a xv3).run Tryf.prog x = stored Tryf.prog x a xv3 .plain := fun x a => run_store _ x a xv3 _ hxo
      have hu := HW.out.2.1.unique he3
      have HX : Hid (plain ts1 = plain ts3 ∧ ts3.length ≤ 65536 ∧ (∀ i, (tabAt ts3 i).cs.length ≤ 65536) ∧ Below w2.heap.size w2 (w3.alloc (.cells #[tv3, xv3] 31))) := ⟨hu.1, hl3, hc3, hb3.trans (hb4.mono hb3.size)⟩
      have hbb : bad = bad3 := hu.2
      subst hbb
      clear K8 hto hxo ht3 hb3 he3 hl3 hc3 hb4 hu
      go_wp2_with fail
      refine K9.mono ?_
      rintro e' w5 ⟨gv, ts2, rfl, ht5, hp5, hb5⟩
      have hX := HX.out
      have hW := HW.out
      have hb25 : Below w2.heap.size w2 w5 := hX.2.2.2.trans (hb5.mono hX.2.2.2.size)
      have HL : Hid (LawW w w5 g n w1.heap.size w2.heap.size wv gv ts1 ts2) := by
        refine ⟨hW.2.2.1.trans (hb25.mono hW.2.2.1.size), ⟨fun i => ((l.getD i 0).toNat : Int), ?_⟩, HG.out.1, hW.2.2.2.1, hW.2.2.2.2.1, hW.1.of_below hb25, ht5⟩
        rw [HEN.out]
        exact hW.2.2.2.2.2.of_block (hb25.block g hW.2.2.2.2.2.lt)
      have HP : Hid (plain ts2 = plain ts1 ∧ ts2.length ≤ 65536 ∧ ∀ i, (tabAt ts2 i).cs.length ≤ 65536) := ⟨hp5.trans hX.1.symm, by rw [len_plain hp5]; exact hX.2.1, fun i => by rw [clen_plain hp5]; exact hX.2.2.1 i⟩
      clear K9 ht5 hp5 hb5 hX hW hb25 HX HW HG HEN HC HF st0 st1
      go_wp2
      go_loopw [8] (fun i wr => ∃ k : Nat, i = .int .i64 k ∧ k ≤ n ∧ Hid (LawW w wr g n w1.heap.size w2.heap.size wv gv ts1 ts2)) (fun i _ => n - (intOf i).toNat)
      case atStart => exact ⟨0, rfl, Nat.zero_le _, HL⟩
      case round =>
        clear HL
        obtain ⟨k, rfl, hk, HL⟩ := hrel
        by_cases hlt : k < n
        · obtain ⟨v, hrow⟩ := HL.out.row
          have ck : wr.cell? ⟨g, k, none⟩ = some (.int .u8 (v k)) := hrow.cell hlt
          have fk : wr.frozen? ⟨g, k, none⟩ = false := hrow.frozen k
          have HL' : ∀ x, Hid (LawW w (wr.setCell ⟨g, k, none⟩ (.int .u8 x)) g n w1.heap.size w2.heap.size wv gv ts1 ts2) := fun x => HL.out.set k x
          clear hrow HL
          generalize v k = y at ck
          go_wp2
          go_roundw
          case rel => exact ⟨k + 1, by go_num, by omega, HL' _⟩
          case measure => simp [intOf]; omega
        · have K10 := sameTables_any w2.heap.size w1.heap.size gv wv ts2 ts1 wr HL.out.got HL.out.want HP.out.1 HP.out.2.1 HP.out.2.2
          have HB : Hid (Below w.heap.size w wr) := HL.out.below
          clear HL
          rcases hev with ⟨rfl, rfl⟩ | ⟨⟨t0, v0, rfl⟩, rfl⟩
          · go_wp2_with fail
            refine K10.mono ?_
            rintro e' w6 ⟨rfl, hb6⟩
            have HB6 : Hid (Below w.heap.size w w6) := HB.out.trans (hb6.mono HB.out.size)
            clear K10 hb6
            go_wp2
            go_ret
            exact ⟨rfl, HB6.out⟩
          · go_wp2_with fail
            refine K10.mono ?_
            rintro e' w6 ⟨rfl, hb6⟩
            have HB6 : Hid (Below w.heap.size w w6) := HB.out.trans (hb6.mono HB.out.size)
            clear K10 hb6
            go_wp2
            go_ret
            exact ⟨rfl, HB6.out⟩
end Go.Proofs.Qxb6616086aFmt

import Derived.Test.Qxb6616086aFmtLw
/-! THE WALK of FnDecodeWritesMatchesFormat at a nil payload. -/
namespace Go.Proofs.Qxb6616086aFmt
open Go.RowKit Go.Maps

set_option maxHeartbeats 4000000 in
set_option maxRecDepth 100000 in
theorem law_nil (w : World) : Calls Tryf.prog 3 #[.slice none 0 0] w fun e w' => e = .returned (.bool true) ∧ Below w.heap.size w w' := by
  have K5 := zzBytes_any none 0 0 w (by unfold maxLen; omega)
  go_enter Tryf.func3, Tryf.ntmps3
  go_wp2_with fail
  refine K5.mono ?_
  rintro e' w' ⟨r, rfl, ew⟩
  subst w'
  clear K5
  cases r with
  | false =>
    go_wp2
    go_ret
    exact ⟨rfl, Below.refl _ _⟩
  | true =>
    go_wp2_with fail
    refine (zzClone_nil w).mono ?_
    rintro e' w' ⟨rfl, ew⟩
    subst w'
    go_wp2_with fail
    refine (model_nil w).mono ?_
    rintro e' w' ⟨rfl, ew⟩
    subst w'
    go_wp2_with fail
    refine (zzdw_nil w).mono ?_
    rintro e' w3 ⟨tv3, xv3, ts3, ev, bad3, rfl, ht3, hb3, he3, hev, hl3, hc3, hxo⟩
    have hto : tv3.oneCell' = true := by rcases ht3.row with ⟨rfl, _⟩ | ⟨g, cap, rfl, _⟩ <;> rfl
    have hb4 : Below w3.heap.size w3 (w3.alloc (.cells #[tv3, xv3] 31)) := (Below.refl _ w3).alloc (Nat.le_refl _) _
    have K9 := tables_any w.heap.size tv3 xv3 ts3 (w3.alloc (.cells #[tv3, xv3] 31)) (Nat.le_trans hb3.size hb4.size) hl3 hc3 (ht3.of_below hb4)
    have st0 : ∀ (x : World) (a : Addr), (store a tv3).run Tryf.prog x = stored Tryf.prog x a tv3 .plain := fun x a => run_store _ x a tv3 _ hto
    have st1 : ∀ (x : World) (a : Addr), (store a xv3).run Tryf.prog x = stored Tryf.prog x a xv3 .plain := fun x a => run_store _ x a xv3 _ hxo
    have hu := ends_nil.unique he3
    have HX : Hid (plain [] = plain ts3 ∧ ts3.length ≤ 65536 ∧ (∀ i, (tabAt ts3 i).cs.length ≤ 65536) ∧ Below w.heap.size w (w3.alloc (.cells #[tv3, xv3] 31))) := ⟨hu.1, hl3, hc3, hb3.trans (hb4.mono hb3.size)⟩
    have hbb : false = bad3 := hu.2
    subst hbb
    have hev' : ev = .nilIface := by rcases hev with ⟨h, _⟩ | ⟨_, h⟩ <;> first | exact h | cases h
    subst hev'
    clear hto hxo ht3 hb3 he3 hl3 hc3 hb4 hu hev
    go_wp2_with fail
    refine K9.mono ?_
    rintro e' w5 ⟨gv, ts2, rfl, ht5, hp5, hb5⟩
    have hX := HX.out
    have hb25 : Below w.heap.size w w5 := hX.2.2.2.trans (hb5.mono hX.2.2.2.size)
    have K10 := sameTables_any w.heap.size 0 gv (.slice none 0 0) ts2 [] w5 ht5 (TabsIs.nil _ _ _ _ _) (hp5.trans hX.1.symm) (by rw [len_plain hp5]; exact hX.2.1) (fun i => by rw [clen_plain hp5]; exact hX.2.2.1 i)
    have HB : Hid (Below w.heap.size w w5) := hb25
    clear K9 ht5 hp5 hb5 hX hb25 HX st0 st1
    go_wp2
    refine wp_loop_rounds 1 ?_
    rw [rounds_succ]
    go_wp2_with fail
    refine K10.mono ?_
    rintro e' w6 ⟨rfl, hb6⟩
    have HB6 : Hid (Below w.heap.size w w6) := HB.out.trans (hb6.mono HB.out.size)
    clear K10 hb6
    go_wp2
    go_ret
    exact ⟨rfl, HB6.out⟩
end Go.Proofs.Qxb6616086aFmt

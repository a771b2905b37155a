import Derived.Test.Qxb6616086aFmtAw
import Derived.Laws.IdiomStrings
/-! THE WALK of zzTableAt. -/
namespace Go.Proofs.Qxb6616086aFmt
open Go.RowKit

/-- A table that stands behind the others and holds nothing. -/
def newTab (name : List UInt8) : MTab := ⟨name, false, .slice none 0 0, []⟩

def GotTab (B : Nat) (e : Ending) (w w' : World) (ts : List MTab) (name : List UInt8) : Prop :=
  ∃ tv' ts', e = .returned (.tuple #[tv', .int .i64 (atT (plain ts) name : Nat)]) ∧ TabsIs w' B 42 3 51 tv' ts' ∧ plain ts' = addT (plain ts) name ∧ Below B w w' ∧ atT (plain ts) name < ts'.length

theorem gotTab_new {B : Nat} {w w1 w' : World} {tv tv' : Value} {ts : List MTab} {name : List UInt8} (h : TabsIs w1 B 42 3 51 tv ts) (hB : B ≤ w1.heap.size) (hb : Below B w w1) (hf : findT (plain ts) name = none)
    (hg : Grew w1 w' 42 3 tabZ (tabCell 3 ts) (tabF (newTab name)) tv tv' ts.length) : GotTab B (.returned (.tuple #[tv', .int .i64 (ts.length : Int)])) w w' ts name := by
  have e1 : atT (plain ts) name = ts.length := by unfold atT; rw [hf]; exact plain_length ts
  refine ⟨tv', ts ++ [newTab name], by rw [e1], h.addTab (by decide) (by decide) (by decide) (newTab name) rfl rfl hg.rows hg.grown hg.own hB, ?_, hb.trans (hg.below hB h.lo), by rw [e1]; simp⟩
  rw [plain_snoc]
  unfold addT
  rw [hf]
  rfl

theorem new_cell (w : World) (c : Array Value) (t : TypeId) (k : Nat) : (w.alloc (.cells c t)).cell? ((⟨w.heap.size, 0, none⟩ : Addr).add k) = c[k]? := by
  rw [Addr.add_lit, Nat.zero_add]
  exact World.cell?_alloc_mark w c t (0, 0) k

set_option maxHeartbeats 1000000 in
theorem tableAt_nil (B : Nat) (name : List UInt8) (w : World) (hB : B ≤ w.heap.size) : Calls Tryf.prog 14 #[.slice none 0 0, strV name] w fun e w' => GotTab B e w w' [] name := by
  unfold strV
  have ht : TabsIs w B 42 3 51 (.slice none 0 0) [] := TabsIs.nil _ _ _ _ _
  have HF : Hid (findT (plain []) name = none) := rfl
  have HT : Hid (TabsIs (w.alloc (.cells #[.string ⟨name.toArray⟩, .bool false, .slice none 0 0] 42)) B 42 3 51 (.slice none 0 0) []) := TabsIs.nil _ _ _ _ _
  clear ht
  go_enter Tryf.func14, Tryf.ntmps14
  go_wp2
  refine wp_loop_rounds 1 ?_
  rw [rounds_succ]
  go_wp2_with (at_builtin; refine wpList_append_rows rfl (.tmp 25) (.tmp 28) 25 rfl 42 3 tabZ kept42 (by decide) Tryf.underlying25 (.slice none 0 0) 0 (tabCell 3 []) rfl (Rows.nil _ _ _ _ _) ⟨w.heap.size, 0, none⟩ 1 rfl (tabF (newTab name)) ?cc ?co (by decide) ?_)
  case cc => exact fun k hk => (new_cell w _ 42 k).trans (by rcases (by omega : k = 0 ∨ k = 1 ∨ k = 2) with rfl | rfl | rfl <;> rfl)
  case co => exact fun k hk => by rcases (by omega : k = 0 ∨ k = 1 ∨ k = 2) with rfl | rfl | rfl <;> rfl
  intro v' w' hg
  have HG : Hid _ := hg
  clear hg
  go_wp2
  go_ret2
  exact gotTab_new HT.out (by simp; omega) ((Below.refl B w).alloc hB _) HF.out HG.out

theorem gotTab_old {B : Nat} {w w' : World} {tv : Value} {ts : List MTab} {name : List UInt8} {k : Nat} (h : TabsIs w' B 42 3 51 tv ts) (hb : Below B w w') (hf : findT (plain ts) name = some k) (hk : k < ts.length) :
    GotTab B (.returned (.tuple #[tv, .int .i64 (k : Int)])) w w' ts name := by
  have e1 : atT (plain ts) name = k := by unfold atT; rw [hf]
  refine ⟨tv, ts, by rw [e1], h, ?_, hb, by omega⟩
  unfold addT
  rw [hf]

set_option maxHeartbeats 1000000 in
theorem tableAt_some (B : Nat) (g cap : Nat) (ts : List MTab) (name : List UInt8) (w : World) (hB : B ≤ w.heap.size) (hn : ts.length ≤ 1000000) (h : TabsIs w B 42 3 51 (.slice (some ⟨g, 0, none⟩) ts.length cap) ts) :
    Calls Tryf.prog 14 #[.slice (some ⟨g, 0, none⟩) ts.length cap, strV name] w fun e w' => GotTab B e w w' ts name := by
  unfold strV
  have HT : Hid (TabsIs w B 42 3 51 (.slice (some ⟨g, 0, none⟩) ts.length cap) ts) := h
  clear h
  obtain ⟨y, hy⟩ : ∃ y, y = ByteArray.mk name.toArray := ⟨_, rfl⟩
  have HY : Hid (y = ByteArray.mk name.toArray) := hy
  rw [← hy]
  clear hy
  go_enter Tryf.func14, Tryf.ntmps14
  go_wp2
  go_loopw [6] (fun i wr => ∃ k : Nat, k ≤ ts.length ∧ i = .int .i64 k ∧ wr = w ∧ Hid (∀ j, j < k → (tabAt ts j).name ≠ name)) (fun i _ => ts.length - (intOf i).toNat)
  case atStart => exact ⟨0, Nat.zero_le _, rfl, rfl, fun j hj => by omega⟩
  case round =>
    obtain ⟨k, hk, rfl, rfl, HN⟩ := hrel
    by_cases hlt : k < ts.length
    · obtain ⟨x, hx⟩ : ∃ x, x = ByteArray.mk (tabAt ts k).name.toArray := ⟨_, rfl⟩
      have hcell : wr.cell? ⟨g, k * 3, none⟩ = some (.string x) := by
        rw [hx]
        exact (HT.out.cell rfl hlt (k := 0) (by decide)).1
      by_cases heq : (x.toList == y.toList) = true
      · have HF : Hid (findT (plain ts) name = some k) := by
          refine findT_some (by rw [plain_length]; exact hlt) (fun j hj => by rw [name_pl]; exact HN.out j hj) ?_
          have e : x.toList = y.toList := by simpa using heq
          rw [hx, HY.out, strBytes, strBytes] at e
          rw [name_pl]; exact e
        clear hx HN
        go_wp2
        go_ret2
        exact gotTab_old HT.out (Below.refl _ _) HF.out hlt
      · have heq : (x.toList == y.toList) = false := by simpa using heq
        have HN' : Hid (∀ j, j < k + 1 → (tabAt ts j).name ≠ name) := fun j hj => by
          by_cases e : j = k
          · subst e
            intro q
            rw [hx, HY.out, strBytes, strBytes, q] at heq
            simp at heq
          · exact HN.out j (by omega)
        clear hx HN
        go_wp2
        go_roundw
        case rel => exact ⟨k + 1, by omega, by go_num, by first | rfl | trivial, HN'⟩
        case measure => simp [intOf]; omega
    · have HF : Hid (findT (plain ts) name = none) := findT_none (fun j hj => by rw [name_pl]; exact HN.out j (by rw [plain_length] at hj; omega))
      have HT' : Hid (TabsIs (wr.alloc (.cells #[.string y, .bool false, .slice none 0 0] 42)) B 42 3 51 (.slice (some ⟨g, 0, none⟩) ts.length cap) ts) := HT.out.of_below ((Below.refl _ _).alloc (Nat.le_refl _) _)
      clear HT HN
      go_wp2_with (at_builtin; refine wpList_append_rows rfl (.tmp 25) (.tmp 28) 25 rfl 42 3 tabZ kept42 (by decide) Tryf.underlying25 _ ts.length (tabCell 3 ts) rfl HT'.out.row ⟨wr.heap.size, 0, none⟩ 1 rfl (tabF (newTab name)) ?cc ?co hn ?_)
      case cc => exact fun k hk => (new_cell wr _ 42 k).trans (by rcases (by omega : k = 0 ∨ k = 1 ∨ k = 2) with rfl | rfl | rfl <;> first | rfl | (rw [HY.out]; rfl))
      case co => exact fun k hk => by rcases (by omega : k = 0 ∨ k = 1 ∨ k = 2) with rfl | rfl | rfl <;> rfl
      intro v' w' hg
      have HG : Hid (Grew _ _ _ _ _ _ _ _ _ _) := hg
      clear hg
      go_wp2
      go_ret2
      exact gotTab_new HT'.out (by simp; omega) ((Below.refl B _).alloc hB _) HF.out HG.out

theorem tableAt_any (B : Nat) (tv : Value) (ts : List MTab) (name : List UInt8) (w : World) (hB : B ≤ w.heap.size) (hn : ts.length ≤ 1000000) (h : TabsIs w B 42 3 51 tv ts) :
    Calls Tryf.prog 14 #[tv, strV name] w fun e w' => GotTab B e w w' ts name := by
  rcases h.row with ⟨rfl, hl⟩ | ⟨g, cap, rfl, _⟩
  · obtain rfl : ts = [] := List.eq_nil_of_length_eq_zero hl
    exact tableAt_nil B name w hB
  · exact tableAt_some B g cap ts name w hB hn h
end Go.Proofs.Qxb6616086aFmt

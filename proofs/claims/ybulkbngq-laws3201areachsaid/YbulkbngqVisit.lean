/-
  The two closures of 'snow.LawS3201AReach': 'cont' (6) and the visitor (8).
-/
import Derived.Test.YbulkbngqHeap
import Derived.Deep.RegionLaw
import Derived.BigRegion
import Derived.Deep.QuietTactic
import Derived.BigQuiet
namespace Go.Proofs.Ybulkbngq
open Go.RowKit
set_option linter.unusedVariables false

/-- 'cont(i)': bit i of stop is 0. -/
def contB (stop : Int) (i : Nat) : Bool := bits BinOp.and IntKind.u64 (stop / 2 ^ i) 1 == 0

theorem cont_any (i : Nat) (hi : i < 64) (stop : Int) (b : Nat) (w : World) (h0 : 0 ≤ stop) (h1 : stop ≤ 18446744073709551615) (hc : w.cell? ⟨b, 0, none⟩ = some (.int .u64 stop)) :
    Calls Yba.prog 6 #[.int .i64 i, .pointer (some ⟨b, 0, none⟩)] w fun e w' => e = .returned (.bool (contB stop i)) ∧ w' = w := by
  go_enter Yba.func6, Yba.ntmps6
  go_wp2
  go_ret
  exact ⟨rfl, rfl⟩

/-- The log's variable holds lv, which owns xs. -/
structure LogAt (w : World) (bl base : Nat) (lv : Value) (xs : List Value) : Prop where
  var : w.heap[bl]? = some (.cells #[lv] 84 (0, 0))
  own : w.ownsRow base 3 1 lv xs.length xs

theorem log_step {w w1 : World} {bl base g cap : Nat} {lv : Value} {xs : List Value} {o : Obj} {i : Nat} (hl : LogAt w bl base lv xs) (hb : bl < base) (hbw : base ≤ w.heap.size)
    (hown1 : w1.ownsRow base 3 1 (.slice (some ⟨g, 0, none⟩) (xs.length + 1) cap) (xs.length + 1) (xs ++ [.int .i64 i])) (hgrow : (w.alloc o).drew.grownBy w1 lv.ownBlock) (hat : lv.ownBlock = some g ∨ g = w.heap.size + 1) :
    LogAt (w1.setCell ⟨bl, 0, none⟩ (.slice (some ⟨g, 0, none⟩) (xs.length + 1) cap)) bl base (.slice (some ⟨g, 0, none⟩) (xs.length + 1) cap) (xs ++ [.int .i64 i]) ∧
    Touch (fun k => k = bl ∨ lv.ownBlock = some k) w (w1.setCell ⟨bl, 0, none⟩ (.slice (some ⟨g, 0, none⟩) (xs.length + 1) cap)) := by
  have hne := own_ne hl.own hb
  have hv1 : w1.heap[bl]? = some (.cells #[lv] 84 (0, 0)) := by
    rw [hgrow.block bl (by have := lt_of_heap hl.var; simp [heap_drew]; omega) hne]
    show (w.alloc o).heap[bl]? = _
    rw [Below.heap_alloc _ _ _ (lt_of_heap hl.var)]
    exact hl.var
  have hgb : bl < g := by
    have := (hown1.lt g rfl).1
    omega
  refine ⟨⟨one_setCell hv1, ?_⟩, ?_⟩
  · have := ownsRow_setCell_below hown1 (a := ⟨bl, 0, none⟩) hb (.slice (some ⟨g, 0, none⟩) (xs.length + 1) cap)
    simpa using this
  · refine Touch.setCell ?_ (fun _ => .inl rfl) _
    refine Touch.grown (w1 := (w.alloc o).drew) (((Touch.refl _ _).alloc _).drew) hgrow (fun k hk _ => .inr hk)

set_option maxRecDepth 100000 in
set_option maxHeartbeats 400000 in
theorem visit_any (i : Nat) (hi : i < 64) (stop : Int) (bs bc bl vb base : Nat) (lv : Value) (xs : List Value) (w : World) (h0 : 0 ≤ stop) (h1 : stop ≤ 18446744073709551615)
    (hs : w.cell? ⟨bs, 0, none⟩ = some (.int .u64 stop))
    (hc : w.cell? ⟨bc, 0, none⟩ = some (.func (.func 6) #[] #[.pointer (some ⟨bs, 0, none⟩)]))
    (hq : w.cell? ⟨vb, 3, none⟩ = some (.int .i64 i))
    (hl : LogAt w bl base lv xs) (hn : xs.length ≤ 64) (hb : bl < base) (hbw : base ≤ w.heap.size)
    (hsb : bs < base) (hcb : bc < base) (hvb : vb < base) (n1 : bs ≠ bl) (n2 : bc ≠ bl) (n3 : vb ≠ bl) :
    Calls Yba.prog 8 #[.pointer (some ⟨vb, 0, none⟩), .pointer (some ⟨bl, 0, none⟩), .pointer (some ⟨bc, 0, none⟩)] w fun e w' => e = .returned (.bool (contB stop i)) ∧
      ∃ lv', LogAt w' bl base lv' (xs ++ [.int .i64 i]) ∧ Touch (fun k => k = bl ∨ lv.ownBlock = some k) w w' := by
  obtain ⟨i0, hi0, hz0, hz1, hz2⟩ := info_parts info3
  have hlc := cell_of_one hl.var
  have hlf := free_of_one hl.var
  have H1 : Hid ((w.alloc (.cells #[.int .i64 i] 3)).drew.ownsRow base 3 1 lv xs.length xs) := (hl.own.alloc _).drew
  have H2 : Hid (∀ j u, [Value.int .i64 i][j]? = some u → (w.alloc (.cells #[.int .i64 i] 3)).drew.cell? ((⟨w.heap.size, 0, none⟩ : Addr).add j) = some u) := news_new w _ _
  have H3 : Hid (∀ u ∈ [Value.int .i64 i], u.oneCell' = true) := one_cell _ rfl
  have H4 : Hid (∀ k, k < base → some k ≠ lv.ownBlock) := fun k hk => own_ne hl.own hk
  have H5 : Hid (∀ p : Addr, p.block < w.heap.size → (w.alloc (.cells #[.int .i64 i] 3)).drew.cell? p = w.cell? p) := fun p hp => World.cell?_of_block (Below.heap_alloc _ _ _ hp)
  have H7 : Hid (∀ p : Addr, p.block < w.heap.size → (w.alloc (.cells #[.int .i64 i] 3)).drew.frozen? p = w.frozen? p) := fun p hp => World.frozen?_of_block (Below.heap_alloc _ _ _ hp)
  have H6 : Hid (LogAt w bl base lv xs) := hl
  clear hl
  have hblw : bl < w.heap.size := by omega
  have hvbw : vb < w.heap.size := by omega
  go_enter Yba.func8, Yba.ntmps8
  go_wp2
  go_region_law (refine step_append_lies _ (by rfl) _ _ _ (by rfl) base 3 i0 (.int .i64 0) 1 8 Yba.underlying84 hi0 hz0 hz1 hz2 rfl (by decide) lv xs.length xs (by rfl) H1.out ⟨w.heap.size, 0, none⟩ 1 1 [.int .i64 i] (by rfl) rfl H2.out H3.out (by omega) (by unfold maxLen; omega) (by omega) (by simp; omega) (w.heap.size + 1) (by simp) ?_; intro g cap w1 hown1 hgrow hat hlt; have c1 := (hgrow.cell_far ⟨bl, 0, none⟩ (by simp; omega) (H4.out _ hb)).trans ((H5.out _ (by simp; omega)).trans hlc); have c2 := (hgrow.frozen_far ⟨bl, 0, none⟩ (by simp; omega) (H4.out _ hb)).trans ((H7.out _ (by simp; omega)).trans hlf))
  all_goals
    have R := log_step H6.out hb hbw hown1 hgrow hat
    clear c1 c2 hat hown1 hgrow hlt
    generalize (w1.setCell { block := bl, off := 0 } (Value.slice (some { block := g, off := 0 }) (xs.length + 1) cap)) = w2 at *
    have d1 := R.2.cell hs (by intro h; exact h.elim n1 (fun e => H4.out _ hsb e.symm))
    have d2 := R.2.cell hc (by intro h; exact h.elim n2 (fun e => H4.out _ hcb e.symm))
    have d3 := R.2.cell hq (by intro h; exact h.elim n3 (fun e => H4.out _ hvb e.symm))
    have HR : Hid (LogAt w2 bl base (.slice (some ⟨g, 0, none⟩) (xs.length + 1) cap) (xs ++ [.int .i64 i]) ∧ Touch (fun k => k = bl ∨ lv.ownBlock = some k) w w2) := R
    clear R hs hc hq hlc hlf
    go_wp2
    go_quiet ((go_at_call 6; exact Calls.quiet_of_same (cont_any i hi stop bs _ h0 h1 d1)))
    go_wp2
    go_ret
    exact ⟨rfl, _, ⟨HR.out.1.var, HR.out.1.own⟩, HR.out.2.drewN _⟩
end Go.Proofs.Ybulkbngq

/-
  WORLDS: 'Touch S w w'': w' is w with new blocks, and with writes to blocks of S alone. And small laws on rows and blocks. No function of the program is walked here.
-/
import Derived.Test.YbulkbnmoFmtRows
import Derived.WalkKit
import Derived.WalkLawsBesides
import Derived.Deep.AppendLies
import Derived.Lib.SliceRun
namespace Go.Proofs.YbulkbnmoFmt
open Go.RowKit

structure Touch (S : Nat → Prop) (w w' : World) : Prop where
  os : w'.os = w.os
  tape : w'.tape = w.tape
  output : w'.output = w.output
  size : w.heap.size ≤ w'.heap.size
  block : ∀ k, k < w.heap.size → ¬ S k → w'.heap[k]? = w.heap[k]?

theorem Touch.refl (S : Nat → Prop) (w : World) : Touch S w w := ⟨rfl, rfl, rfl, Nat.le_refl _, fun _ _ _ => rfl⟩
/-- One step more: what it writes is in S, or lies behind w's blocks. -/
theorem Touch.next {S S' : Nat → Prop} {w w1 w2 : World} (h : Touch S w w1) (h' : Touch S' w1 w2) (hs : ∀ k, k < w.heap.size → S' k → S k) : Touch S w w2 :=
  ⟨h'.os.trans h.os, h'.tape.trans h.tape, h'.output.trans h.output, Nat.le_trans h.size h'.size, fun k hk hn =>
    (h'.block k (Nat.lt_of_lt_of_le hk h.size) (fun hs' => hn (hs k hk hs'))).trans (h.block k hk hn)⟩
theorem Touch.trans {S : Nat → Prop} {w w1 w2 : World} (h : Touch S w w1) (h' : Touch S w1 w2) : Touch S w w2 := h.next h' (fun _ _ h => h)
theorem Touch.mono {S S' : Nat → Prop} {w w' : World} (h : Touch S w w') (hs : ∀ k, k < w.heap.size → S k → S' k) : Touch S' w w' :=
  ⟨h.os, h.tape, h.output, h.size, fun k hk hn => h.block k hk (fun hk' => hn (hs k hk hk'))⟩
theorem Touch.alloc {S : Nat → Prop} {w w1 : World} (h : Touch S w w1) (o : Obj) : Touch S w (w1.alloc o) :=
  h.trans ⟨rfl, rfl, rfl, by simp, fun k hk _ => Below.heap_alloc _ _ _ hk⟩
theorem Touch.drew {S : Nat → Prop} {w w1 : World} (h : Touch S w w1) : Touch S w w1.drew := ⟨h.os, h.tape, h.output, h.size, h.block⟩
theorem Touch.drewN {S : Nat → Prop} {w w1 : World} (h : Touch S w w1) (n : Nat) : Touch S w (w1.drewN n) :=
  h.trans ⟨rfl, rfl, rfl, Nat.le_refl _, fun _ _ _ => rfl⟩
theorem Touch.setCell {S : Nat → Prop} {w w1 : World} (h : Touch S w w1) {p : Addr} (hp : p.block < w.heap.size → S p.block) (u : Value) : Touch S w (w1.setCell p u) :=
  h.next (S' := fun k => k = p.block) ⟨rfl, rfl, rfl, by simp [World.setCell], fun k _ hk => Below.heap_setCell _ _ _ _ hk⟩ (fun k hk e => by rw [e] at hk ⊢; exact hp hk)
theorem Touch.grown {S : Nat → Prop} {w w1 w2 : World} {row : Option Nat} (h : Touch S w w1) (hg : w1.grownBy w2 row) (hr : ∀ k, row = some k → k < w.heap.size → S k) : Touch S w w2 :=
  h.next (S' := fun k => row = some k) ⟨hg.os, hg.tape, hg.output, hg.size, fun k hk hn => hg.block k hk (fun e => hn e.symm)⟩ (fun k hk e => hr k e hk)
theorem Touch.below {S : Nat → Prop} {w w' : World} (h : Touch S w w') {B : Nat} (hB : B ≤ w.heap.size) (hs : ∀ k, S k → B ≤ k) : Below B w w' :=
  ⟨h.os, h.tape, h.output, h.size, fun k hk => h.block k (by omega) (fun hk' => by have := hs k hk'; omega)⟩
theorem Touch.heap {S : Nat → Prop} {w w' : World} (h : Touch S w w') {k : Nat} {o : Obj} (hk : w.heap[k]? = some o) (hn : ¬ S k) : w'.heap[k]? = some o :=
  (h.block k (by
    rcases Nat.lt_or_ge k w.heap.size with hl | hl
    · exact hl
    · rw [Array.getElem?_eq_none hl] at hk; cases hk) hn).trans hk
theorem Touch.cell {S : Nat → Prop} {w w' : World} (h : Touch S w w') {p : Addr} {v : Value} (hk : w.cell? p = some v) (hn : ¬ S p.block) : w'.cell? p = some v :=
  (World.cell?_of_block (h.block p.block (World.block_lt_of_cell? w p hk) hn)).trans hk
theorem Touch.owns {S : Nat → Prop} {w w' : World} (h : Touch S w w') {base : Nat} {e : TypeId} {size n : Nat} {v : Value} {xs : List Value} (ho : w.ownsRow base e size v n xs) (hn : ∀ k, v.ownBlock = some k → ¬ S k) : w'.ownsRow base e size v n xs := by
  refine ⟨ho.1, ?_⟩
  rcases ho.2 with h0 | ⟨g, cap, cur, hv, hb, hg, h1, h2, h3, h4⟩
  · exact .inl h0
  · exact .inr ⟨g, cap, cur, hv, hb, h.heap hg (hn g (by rw [hv]; rfl)), h1, h2, h3, h4⟩

theorem lt_of_heap {w : World} {k : Nat} {o : Obj} (h : w.heap[k]? = some o) : k < w.heap.size := by
  rcases Nat.lt_or_ge k w.heap.size with hl | hl
  · exact hl
  · rw [Array.getElem?_eq_none hl] at h; cases h

theorem own_ne {w : World} {base : Nat} {e : TypeId} {size n : Nat} {v : Value} {xs : List Value} (ho : w.ownsRow base e size v n xs) {k : Nat} (hk : k < base) : some k ≠ v.ownBlock := by
  intro h
  have := (ho.lt k h.symm).1
  omega

/-- A block whose element type is another is not the row's. -/
theorem own_ty {w : World} {base : Nat} {e e' : TypeId} {size n : Nat} {v : Value} {xs : List Value} (ho : w.ownsRow base e size v n xs) {k : Nat} {cs : Array Value} (hk : w.heap[k]? = some (.cells cs e' (0, 0))) (hne : e ≠ e') : some k ≠ v.ownBlock := by
  intro h
  rcases ho.2 with ⟨h0, _⟩ | ⟨g, cap, cur, hv, _, hg, _⟩
  · rw [h0] at h; cases h
  · rw [hv] at h
    simp only [Value.ownBlock, Option.some.injEq] at h
    subst h
    rw [hg] at hk
    simp at hk
    exact hne hk.2

/-- Two rows of different element types lie in different blocks. -/
theorem own_own {w : World} {base base' : Nat} {e e' : TypeId} {size size' n n' : Nat} {v v' : Value} {xs xs' : List Value} (ho : w.ownsRow base e size v n xs) (ho' : w.ownsRow base' e' size' v' n' xs') (hne : e ≠ e') :
    ∀ k, v'.ownBlock = some k → v.ownBlock ≠ some k := by
  intro k hk
  rcases ho'.2 with ⟨h0, _⟩ | ⟨g, cap, cur, hv, _, hg, _⟩
  · rw [h0] at hk; cases hk
  · rw [hv] at hk
    simp only [Value.ownBlock, Option.some.injEq] at hk
    subst hk
    exact (own_ty ho hg hne).symm

theorem heap_drew (w : World) : w.drew.heap = w.heap := rfl

theorem one_cell (v : Value) (h : v.oneCell' = true) : ∀ u ∈ [v], u.oneCell' = true := by
  intro u hu
  simp at hu; subst hu; exact h

theorem news_new (w : World) (v : Value) (t : TypeId) : ∀ j u, [v][j]? = some u → (w.alloc (.cells #[v] t)).drew.cell? ((⟨w.heap.size, 0, none⟩ : Addr).add j) = some u :=
  World.news_of_block (w := (w.alloc (.cells #[v] t)).drew) (cs := #[v]) (t := t) (heap_alloc_new w _)
theorem news_plain (w : World) (v : Value) (t : TypeId) : ∀ j u, [v][j]? = some u → (w.alloc (.cells #[v] t)).cell? ((⟨w.heap.size, 0, none⟩ : Addr).add j) = some u :=
  World.news_of_block (w := (w.alloc (.cells #[v] t))) (cs := #[v]) (t := t) (heap_alloc_new w _)

theorem cell_alloc {w : World} {p : Addr} {v : Value} (h : w.cell? p = some v) (o : Obj) : (w.alloc o).cell? p = some v := Lib.cell?_alloc_some o h

theorem info5 : (Ybaf.prog.info? 5).map (fun i => (i.zero, i.size, i.bytes)) = some (some (.int .u8 0), 1, 1) := by kernel_rfl
theorem size5 : (Ybaf.prog.info? 5).map (·.size) = some 1 := by kernel_rfl

theorem set_same {w : World} {p : Addr} {u v : Value} (h : w.cell? p = some u) : (w.setCell p v).cell? p = some v := World.cell?_setCell_same' w p v (by rw [h]; rfl)
theorem set_other {w : World} {p q : Addr} {v : Value} (h : p ≠ q) : (w.setCell p v).cell? q = w.cell? q := by
  rw [World.cell?_setCell_other]; exact h
theorem set_far {w : World} {b b' o o' : Nat} {v : Value} (h : b ≠ b') : (w.setCell ⟨b, o, none⟩ v).cell? ⟨b', o', none⟩ = w.cell? ⟨b', o', none⟩ :=
  set_other (by intro e; injection e with e _; exact h e)
theorem set_off {w : World} {b b' o o' : Nat} {v : Value} (h : o ≠ o') : (w.setCell ⟨b, o, none⟩ v).cell? ⟨b', o', none⟩ = w.cell? ⟨b', o', none⟩ :=
  set_other (by intro e; injection e with _ e; exact h e)

theorem setCells_touch (g : Nat) : ∀ (vs : List Value) (o : Nat) (w : World), Touch (fun k => k = g) w (w.setCells g o vs)
  | [], _, w => Touch.refl _ w
  | v :: vs, o, w => ((Touch.refl (fun k => k = g) w).setCell (p := ⟨g, o, none⟩) (fun _ => rfl) v).trans (setCells_touch g vs (o + 1) _)
theorem setCells_block (g : Nat) (e : TypeId) : ∀ (vs : List Value) (o : Nat) (w : World) (cur : Array Value), w.heap[g]? = some (.cells cur e (0, 0)) → ∃ cur', (w.setCells g o vs).heap[g]? = some (.cells cur' e (0, 0)) ∧ cur'.size = cur.size
  | [], _, _, cur, h => ⟨cur, h, rfl⟩
  | v :: vs, o, w, cur, h => by
    obtain ⟨cur', h1, h2⟩ := setCells_block g e vs (o + 1) (w.setCell ⟨g, o, none⟩ v) _ (heap_setCell_same w g o cur e v h)
    exact ⟨cur', h1, by simpa using h2⟩

/-- A row whose cells have turned, none of them owned. -/
theorem own_cleared {w : World} {base g cap : Nat} {e : TypeId} (h : w.ownsRow base e 1 (.slice (some ⟨g, 0, none⟩) 0 cap) 0 []) (o : Nat) (vs : List Value) : (w.setCells g o vs).ownsRow base e 1 (.slice (some ⟨g, 0, none⟩) 0 cap) 0 [] := by
  refine ⟨rfl, .inr ?_⟩
  rcases h.2 with ⟨h0, _⟩ | ⟨g', cap', cur, hv, hb, hg, h1, h2, h3, h4⟩
  · simp at h0
  · simp only [Value.slice.injEq, Option.some.injEq, Addr.mk.injEq, and_true, true_and] at hv
    obtain ⟨rfl, rfl⟩ := hv
    obtain ⟨cur', k1, k2⟩ := setCells_block g e vs o w cur hg
    exact ⟨g, cap, cur', rfl, hb, k1, h1, h2, by rw [k2]; exact h3, by simp⟩
/-- Its cells are there and may be written. -/
theorem own_room {w : World} {base g cap n : Nat} {e : TypeId} {xs : List Value} (h : w.ownsRow base e 1 (.slice (some ⟨g, 0, none⟩) n cap) n xs) (j : Nat) (hj : j < cap) : (w.cell? ⟨g, j, none⟩).isSome = true ∧ w.frozen? ⟨g, j, none⟩ = false := by
  rcases h.2 with ⟨h0, _⟩ | ⟨g', cap', cur, hv, hb, hg, h1, h2, h3, h4⟩
  · simp at h0
  · simp only [Value.slice.injEq, Option.some.injEq, Addr.mk.injEq, and_true, true_and] at hv
    obtain ⟨rfl, rfl⟩ := hv
    refine ⟨?_, frozen_of_row w g j cur e hg⟩
    rw [cell_of_row w g j cur e (0, 0) hg, Array.getElem?_eq_getElem (by omega)]
    rfl

end Go.Proofs.YbulkbnmoFmt

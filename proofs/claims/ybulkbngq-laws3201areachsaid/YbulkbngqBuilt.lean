/-
  The graph while it is built: 'vs[i] = &vertex{seq: i}', then 'vs[a].parents = append(vs[a].parents, vs[b])' round by round.
-/
import Derived.Test.YbulkbngqMem
namespace Go.Proofs.Ybulkbngq
open Go.RowKit Plain
set_option linter.unusedVariables false

/-- A new vertex's cells. -/
def vcells (k : Nat) : Array Value := #[.int .u64 0, .slice none 0 0, .slice none 0 0, .int .i64 (k : Int), .slice none 0 0, .slice none 0 0, .slice none 0 0, .int .u8 0, .bool false, .bool false, .bool false, .int .i64 0,
  .bool false, .bool false, .bool false, .int .u8 0, .int .u8 0, .int .u8 0, .int .i32 0, .int .i32 0, .bool false, .int .u64 0, .int .u64 0, .bool false, .bool false, .int .i64 0, .bool false, .int .i64 0, .int .u64 0]

structure Built (w : World) (m bv b0 : Nat) (par : Nat → List Nat) (pv : Nat → Value) : Prop where
  gr : Graph w m bv b0 w.heap.size par pv (fun _ => 0)
  free4 : ∀ i, i < m → w.frozen? ⟨b0 + i, 4, none⟩ = false
  apart : ∀ i j, i < m → j < m → i ≠ j → ∀ k, (pv i).ownBlock = some k → (pv j).ownBlock ≠ some k

theorem Built.start {w : World} {m bv b0 : Nat} (hbv : bv < b0) (hsz : w.heap.size = b0 + m) (hv : ∀ i, i < m → w.cell? ⟨bv, i, none⟩ = some (vptr b0 i)) (hb : ∀ i, i < m → w.heap[b0 + i]? = some (.cells (vcells i) 36 (0, 0))) :
    Built w m bv b0 (fun _ => []) (fun _ => .slice none 0 0) := by
  refine ⟨⟨hbv, by omega, hv, ?_, ?_, ?_, ?_, fun i _ j hj => by simp at hj⟩, ?_, fun i j _ _ _ k hk => by simp [Value.ownBlock] at hk⟩
  · intro i hi; rw [cell_of_row w (b0 + i) 3 _ 36 (0, 0) (hb i hi)]; rfl
  · intro i hi; rw [cell_of_row w (b0 + i) 21 _ 36 (0, 0) (hb i hi)]; rfl
  · intro i hi; exact frozen_of_row w (b0 + i) 21 _ 36 (hb i hi)
  · intro i hi
    refine ⟨by rw [cell_of_row w (b0 + i) 4 _ 36 (0, 0) (hb i hi)]; rfl, World.ownsRow_nil _ _ _ _, fun k hk => by simp [Value.ownBlock] at hk⟩
  · intro i hi; exact frozen_of_row w (b0 + i) 4 _ 36 (hb i hi)

def addPar (par : Nat → List Nat) (a b : Nat) (x : Nat) : List Nat := if x = a then par a ++ [b] else par x
def setPv (pv : Nat → Value) (a : Nat) (v : Value) (x : Nat) : Value := if x = a then v else pv x

theorem Built.step {w w1 : World} {m bv b0 a b g cap : Nat} {par : Nat → List Nat} {pv : Nat → Value} {o : Obj} (h : Built w m bv b0 par pv) (ha : a < m) (hb : b < m)
    (hown : w1.ownsRow (b0 + m) 26 1 (.slice (some ⟨g, 0, none⟩) ((par a).length + 1) cap) ((par a).length + 1) (vptrs b0 (par a) ++ [vptr b0 b])) (hgrow : (w.alloc o).drew.grownBy w1 (pv a).ownBlock) (hat : (pv a).ownBlock = some g ∨ g = w.heap.size + 1) :
    Built (w1.setCell ⟨b0 + a, 4, none⟩ (.slice (some ⟨g, 0, none⟩) ((par a).length + 1) cap)) m bv b0 (addPar par a b) (setPv pv a (.slice (some ⟨g, 0, none⟩) ((par a).length + 1) cap)) ∧
    Touch (fun k => k = b0 + a ∨ (pv a).ownBlock = some k) w (w1.setCell ⟨b0 + a, 4, none⟩ (.slice (some ⟨g, 0, none⟩) ((par a).length + 1) cap)) := by
  have hlo := h.gr.lo
  have htop := h.gr.top
  have hoa := (h.gr.pars a ha).2.1
  have hge : ∀ k, (pv a).ownBlock = some k → b0 + m ≤ k := fun k hk => (hoa.lt k hk).1
  have hlt : ∀ k, (pv a).ownBlock = some k → k < w.heap.size := fun k hk => (hoa.lt k hk).2
  have ht1 : Touch (fun k => (pv a).ownBlock = some k) w w1 := (((Touch.refl _ w).alloc o).drew).grown hgrow (fun k hk _ => hk)
  have ht : Touch (fun k => k = b0 + a ∨ (pv a).ownBlock = some k) w (w1.setCell ⟨b0 + a, 4, none⟩ (.slice (some ⟨g, 0, none⟩) ((par a).length + 1) cap)) :=
    (ht1.mono (fun k _ e => .inr e)).setCell (fun _ => .inl rfl) _
  have hg := (hown.lt g rfl)
  have hn1 : ∀ k, k < b0 + m → ¬ (pv a).ownBlock = some k := fun k hk e => by have := hge k e; omega
  have hown' := ownsRow_setCell_below hown (a := ⟨b0 + a, 4, none⟩) (by simp; omega) (.slice (some ⟨g, 0, none⟩) ((par a).length + 1) cap)
  have hsz := ht.size
  refine ⟨⟨⟨hlo, by omega, ?_, ?_, ?_, ?_, ?_, ?_⟩, ?_, ?_⟩, ht⟩
  · intro i hi; exact (set_far (by omega)).trans (ht1.cell (h.gr.vs i hi) (hn1 _ (by simp; omega)))
  · intro i hi; exact (set_off (by omega)).trans (ht1.cell (h.gr.seq i hi) (hn1 _ (by simp; omega)))
  · intro i hi; exact (set_off (by omega)).trans (ht1.cell (h.gr.mark i hi) (hn1 _ (by simp; omega)))
  · intro i hi
    rw [World.frozen?_setCell, World.frozen?_of_block (ht1.block (b0 + i) (by omega) (hn1 _ (by omega)))]
    exact h.gr.free i hi
  · intro i hi
    unfold setPv addPar
    by_cases e : i = a
    · subst e
      simp only [if_true]
      refine ⟨set_same (ht1.cell (h.gr.pars i hi).1 (hn1 _ (by simp; omega))), ?_, fun k hk => (hown'.lt k hk).2⟩
      rw [vptrs_snoc, List.length_append]
      exact hown'
    · simp only [e, if_false]
      obtain ⟨h1, h2, h3⟩ := h.gr.pars i hi
      refine ⟨(set_far (by omega)).trans (ht1.cell h1 (hn1 _ (by simp; omega))), ht.owns h2 (fun k hk e' => ?_), fun k hk => by have := h3 k hk; omega⟩
      rcases e' with e' | e'
      · have := (h2.lt k hk).1; omega
      · exact h.apart i a hi ha e k hk e'
  · intro i hi j hj
    unfold addPar at hj
    by_cases e : i = a
    · subst e
      simp only [if_true] at hj
      rcases List.mem_append.1 hj with hj | hj
      · exact h.gr.lt i hi j hj
      · simp at hj; subst hj; exact hb
    · simp only [e, if_false] at hj
      exact h.gr.lt i hi j hj
  · intro i hi
    rw [World.frozen?_setCell, World.frozen?_of_block (ht1.block (b0 + i) (by omega) (hn1 _ (by omega)))]
    exact h.free4 i hi
  · intro i j hi hj hij k hk
    unfold setPv at hk ⊢
    by_cases e : i = a
    · subst e
      have e2 : ¬ j = i := fun e => hij e.symm
      simp only [if_true, Value.ownBlock, Option.some.injEq] at hk
      simp only [e2, if_false]
      subst hk
      rcases hat with h1 | h1
      · exact h.apart i j hi hj hij _ h1
      · intro h2
        have := ((h.gr.pars j hj).2.1.lt _ h2).2
        omega
    · simp only [e, if_false] at hk
      by_cases e2 : j = a
      · subst e2
        simp only [if_true, Value.ownBlock]
        intro h2
        simp only [Option.some.injEq] at h2
        subst h2
        rcases hat with h1 | h1
        · exact h.apart i j hi hj hij _ hk h1
        · have := ((h.gr.pars i hi).2.1.lt _ hk).2
          omega
      · simp only [e2, if_false]
        exact h.apart i j hi hj hij k hk

theorem addPar_len {par : Nat → List Nat} {a b j : Nat} (h : ∀ i, (par i).length ≤ j) (i : Nat) : (addPar par a b i).length ≤ j + 1 := by
  unfold addPar
  split
  · have := h a; simp; omega
  · have := h i; omega

end Go.Proofs.Ybulkbngq

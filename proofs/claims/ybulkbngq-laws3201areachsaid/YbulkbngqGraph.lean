/-
  The graph in memory: m vertices in the blocks b0 .. b0+m-1, the slice 'vs' over block bv, the parents' rows in blocks below N. And the state of '(*DAG).walk'.
-/
import Derived.Test.YbulkbngqVisit
import Derived.Test.YbulkbngqKeep
namespace Go.Proofs.Ybulkbngq
open Go.RowKit Plain
set_option linter.unusedVariables false

def vptr (b0 i : Nat) : Value := .pointer (some ⟨b0 + i, 0, none⟩)
def vptrs (b0 : Nat) (L : List Nat) : List Value := L.map (vptr b0)
def logv (L : List Nat) : List Value := L.map fun (i : Nat) => Value.int .i64 (i : Int)
theorem vptrs_len (b0 : Nat) (L : List Nat) : (vptrs b0 L).length = L.length := by simp [vptrs]
theorem logv_len (L : List Nat) : (logv L).length = L.length := by simp [logv]
theorem vptrs_snoc (b0 : Nat) (L : List Nat) (u : Nat) : vptrs b0 (L ++ [u]) = vptrs b0 L ++ [vptr b0 u] := by simp [vptrs]
theorem logv_snoc (L : List Nat) (u : Nat) : logv (L ++ [u]) = logv L ++ [.int .i64 u] := by simp [logv]
theorem vptrs_get (b0 : Nat) (L : List Nat) (j : Nat) (h : j < L.length) : (vptrs b0 L)[j]? = some (vptr b0 L[j]) := by simp [vptrs, h]
theorem logv_get (L : List Nat) (j : Nat) (h : j < L.length) : (logv L)[j]? = some (.int .i64 (L[j] : Nat)) := by simp [logv, h]

structure Graph (w : World) (m bv b0 N : Nat) (par : Nat → List Nat) (pv : Nat → Value) (mk : Nat → Int) : Prop where
  lo : bv < b0
  top : b0 + m ≤ N
  vs : ∀ i, i < m → w.cell? ⟨bv, i, none⟩ = some (vptr b0 i)
  seq : ∀ i, i < m → w.cell? ⟨b0 + i, 3, none⟩ = some (.int .i64 (i : Int))
  mark : ∀ i, i < m → w.cell? ⟨b0 + i, 21, none⟩ = some (.int .u64 (mk i))
  free : ∀ i, i < m → w.frozen? ⟨b0 + i, 21, none⟩ = false
  pars : ∀ i, i < m → w.cell? ⟨b0 + i, 4, none⟩ = some (pv i) ∧ w.ownsRow (b0 + m) 26 1 (pv i) (par i).length (vptrs b0 (par i)) ∧ ∀ k, (pv i).ownBlock = some k → k < N
  lt : ∀ i, i < m → ∀ j, j ∈ par i → j < m

section
variable {w w' : World} {m bv b0 N : Nat} {par : Nat → List Nat} {pv : Nat → Value} {mk : Nat → Int}

theorem Graph.size (h : Graph w m bv b0 N par pv mk) (hm : 0 < m) : b0 + m ≤ w.heap.size := by
  have := World.block_lt_of_cell? w _ (h.seq (m - 1) (by omega))
  simp at this; omega

theorem Graph.touch (h : Graph w m bv b0 N par pv mk) {S : Nat → Prop} (ht : Touch S w w') (hs : ∀ k, k < N → ¬ S k) : Graph w' m bv b0 N par pv mk := by
  have hb := h.lo
  have htop := h.top
  refine ⟨h.lo, h.top, fun i hi => ht.cell (h.vs i hi) (hs _ (by simp; omega)), fun i hi => ht.cell (h.seq i hi) (hs _ (by simp; omega)), fun i hi => ht.cell (h.mark i hi) (hs _ (by simp; omega)), ?_, ?_, h.lt⟩
  · intro i hi
    have := World.block_lt_of_cell? w _ (h.mark i hi)
    rw [World.frozen?_of_block (ht.block _ this (hs _ (by simp; omega)))]
    exact h.free i hi
  · intro i hi
    obtain ⟨h1, h2, h3⟩ := h.pars i hi
    exact ⟨ht.cell h1 (hs _ (by simp; omega)), ht.owns h2 (fun k hk => hs k (h3 k hk)), h3⟩

/-- A store into a vertex's mark. -/
theorem Graph.setMark (h : Graph w m bv b0 N par pv mk) {i : Nat} (hi : i < m) (v : Int) : Graph (w.setCell ⟨b0 + i, 21, none⟩ (.int .u64 v)) m bv b0 N par pv (fun x => if x = i then v else mk x) := by
  have hb := h.lo
  refine ⟨h.lo, h.top, fun j hj => (set_far (by omega)).trans (h.vs j hj), fun j hj => (set_off (by omega)).trans (h.seq j hj), ?_, fun j hj => by rw [World.frozen?_setCell]; exact h.free j hj, ?_, h.lt⟩
  · intro j hj
    by_cases e : j = i
    · subst e; simp only [if_true]; exact set_same (h.mark j hj)
    · simp only [e, if_false]; exact (set_far (by omega)).trans (h.mark j hj)
  · intro j hj
    obtain ⟨h1, h2, h3⟩ := h.pars j hj
    exact ⟨(set_off (by omega)).trans h1, ownsRow_setCell_below h2 (by simp; omega) _, h3⟩

theorem Graph.congr (h : Graph w m bv b0 N par pv mk) {mk' : Nat → Int} (e : mk = mk') : Graph w m bv b0 N par pv mk' := e ▸ h

/-- The vertex's parents, as the walk wants them. -/
theorem Graph.shape (h : Graph w m bv b0 N par pv mk) {i : Nat} (hi : i < m) : ∃ ao cap, pv i = .slice ao (par i).length cap := by
  obtain ⟨h1, h2, h3⟩ := h.pars i hi
  rcases h2.2 with ⟨h0, hz⟩ | ⟨q, cap, cur, hv, hb, hg, hn⟩
  · exact ⟨none, 0, by rw [hz]; exact h0⟩
  · exact ⟨_, cap, hv⟩
theorem Graph.parent (h : Graph w m bv b0 N par pv mk) {i : Nat} (hi : i < m) {ao : Option Addr} {n cap : Nat} (hp : pv i = .slice ao n cap) (j : Nat) (hj : j < (par i).length) : ∃ q, ao = some ⟨q, 0, none⟩ ∧ w.cell? ⟨q, j, none⟩ = some (vptr b0 (par i)[j]) := by
  obtain ⟨h1, h2, h3⟩ := h.pars i hi
  rcases h2.2 with ⟨h0, hz⟩ | ⟨q, c, cur, hv, hb, hg, hn⟩
  · omega
  · rw [hv] at h2 hp
    simp only [Value.slice.injEq] at hp
    refine ⟨q, hp.1.symm, ?_⟩
    rw [h2.cellAt j (by omega)]
    exact vptrs_get b0 _ j hj
end

/-- The state of the walk: w0: where it began; L: the vertices marked W; log, stk. -/
structure WS (w0 w : World) (m bv b0 N bd bl : Nat) (par : Nat → List Nat) (pv : Nat → Value) (W : Int) (mk0 : Nat → Int) (sv0 : Value) (L log stk : List Nat) (lv : Value) (g cap : Nat) : Prop where
  gr : Graph w m bv b0 N par pv (mkOf W mk0 L)
  walks : w.cell? ⟨bd, 27, none⟩ = some (.int .u64 W)
  stack : w.cell? ⟨bd, 28, none⟩ = some sv0
  free : ∀ o, w.frozen? ⟨bd, o, none⟩ = w0.frozen? ⟨bd, o, none⟩
  lg : LogAt w bl w0.heap.size lv (logv log)
  own : w.ownsRow (bd + 2) 26 1 (.slice (some ⟨g, 0, none⟩) stk.length cap) stk.length (vptrs b0 stk)
  room : 0 < cap ∧ cap ≤ maxLen
  lies : sv0.ownBlock = some g ∨ w0.heap.size ≤ g
  touch : Touch (fun k => (b0 ≤ k ∧ k < b0 + m) ∨ k = bd ∨ k = bl ∨ sv0.ownBlock = some k) w0 w

section
variable {w0 w w1 : World} {m bv b0 N bd bl : Nat} {par : Nat → List Nat} {pv : Nat → Value} {W : Int} {mk0 : Nat → Int} {sv0 : Value} {L log stk : List Nat} {lv : Value} {g cap u : Nat}

/-- The layout: below the DAG's block nothing but the graph; the log's variable behind it, ahead of the walk's own blocks. -/
structure Lay (w0 : World) (m b0 N bd bl : Nat) (sv0 : Value) : Prop where
  dag : N ≤ bd
  log1 : bd + 2 ≤ bl
  log2 : bl < w0.heap.size
  old : ∀ k, sv0.ownBlock = some k → bd + 2 ≤ k ∧ k < w0.heap.size ∧ k ≠ bl
  top : b0 + m ≤ N

theorem WS.gne (h : WS w0 w m bv b0 N bd bl par pv W mk0 sv0 L log stk lv g cap) (hl : Lay w0 m b0 N bd bl sv0) : bd + 2 ≤ g ∧ g ≠ bl := by
  have h1 := (h.own.lt g rfl).1
  refine ⟨h1, ?_⟩
  rcases h.lies with h2 | h2
  · exact (hl.old g h2).2.2
  · have := hl.log2; omega

theorem WS.fits (h : WS w0 w m bv b0 N bd bl par pv W mk0 sv0 L log stk lv g cap) : stk.length ≤ cap := by
  rcases h.own.2 with ⟨h0, _⟩ | ⟨q, c, cur, hv, _, _, hn, hm, _⟩
  · simp at h0
  · simp at hv; omega

theorem WS.setL (h : WS w0 w m bv b0 N bd bl par pv W mk0 sv0 L log stk lv g cap) {L' : List Nat} (hL : ∀ x, x ∈ L ↔ x ∈ L') : WS w0 w m bv b0 N bd bl par pv W mk0 sv0 L' log stk lv g cap :=
  ⟨h.gr.congr (mkOf_congr hL), h.walks, h.stack, h.free, h.lg, h.own, h.room, h.lies, h.touch⟩

theorem WS.drewN (h : WS w0 w m bv b0 N bd bl par pv W mk0 sv0 L log stk lv g cap) (n : Nat) : WS w0 (w.drewN n) m bv b0 N bd bl par pv W mk0 sv0 L log stk lv g cap :=
  ⟨h.gr.touch (S := fun _ => False) ((Touch.refl _ _).drewN n) (fun _ _ h => h), h.walks, h.stack, h.free, ⟨h.lg.var, h.lg.own⟩, h.own, h.room, h.lies, h.touch.drewN n⟩

/-- The pop: the last of the stack. -/
theorem WS.pop (h : WS w0 w m bv b0 N bd bl par pv W mk0 sv0 L log (stk ++ [u]) lv g cap) : WS w0 w m bv b0 N bd bl par pv W mk0 sv0 L log stk lv g cap ∧ w.cell? ⟨g, stk.length, none⟩ = some (vptr b0 u) := by
  have ho := h.own
  have hlen : (stk ++ [u]).length = stk.length + 1 := by simp
  rw [hlen, vptrs_snoc] at ho
  refine ⟨⟨h.gr, h.walks, h.stack, h.free, h.lg, ?_, h.room, h.lies, h.touch⟩, ?_⟩
  · exact ownsRow_pop (by simp [vptrs_len]) (last := [vptr b0 u]) ho
  · rw [ho.cellAt stk.length (by omega), List.getElem?_append_right (by simp [vptrs_len])]
    simp [vptrs_len]

/-- Behind the visitor: the log has grown. -/
theorem WS.visited (h : WS w0 w m bv b0 N bd bl par pv W mk0 sv0 L log stk lv g cap) (hl : Lay w0 m b0 N bd bl sv0) {u : Nat} {lv' : Value} (hlog : LogAt w1 bl w0.heap.size lv' (logv log ++ [.int .i64 u])) (ht : Touch (fun k => k = bl ∨ lv.ownBlock = some k) w w1) :
    WS w0 w1 m bv b0 N bd bl par pv W mk0 sv0 L (log ++ [u]) stk lv' g cap := by
  have hlo : ∀ k, lv.ownBlock = some k → w0.heap.size ≤ k := fun k hk => (h.lg.own.lt k hk).1
  have l1 := hl.dag; have l2 := hl.log1; have l3 := hl.log2; have l4 := hl.top
  have hbd : ¬ (bd = bl ∨ lv.ownBlock = some bd) := by
    rintro (e | e)
    · omega
    · have := hlo _ e; omega
  refine ⟨h.gr.touch ht (fun k hk => ?_), ht.cell h.walks hbd, ht.cell h.stack hbd, ?_, by rw [logv_snoc]; exact hlog, ht.owns h.own (fun k hk => ?_), h.room, h.lies, h.touch.next ht (fun k hk e => ?_)⟩
  · rintro (e | e)
    · omega
    · have := hlo _ e; omega
  · intro o
    have := World.block_lt_of_cell? w _ h.stack
    exact (World.frozen?_of_block (ht.block bd this hbd)).trans (h.free o)
  · rintro (e | e)
    · simp only [Value.ownBlock, Option.some.injEq] at hk
      have := (h.gne hl).2; omega
    · exact own_own h.lg.own h.own (by decide) k hk e
  · rcases e with e | e
    · exact .inr (.inr (.inl e))
    · have := hlo _ e; omega

/-- A vertex is marked. -/
theorem WS.marked (h : WS w0 w m bv b0 N bd bl par pv W mk0 sv0 L log stk lv g cap) (hl : Lay w0 m b0 N bd bl sv0) {p : Nat} (hp : p < m) :
    WS w0 (w.setCell ⟨b0 + p, 21, none⟩ (.int .u64 W)) m bv b0 N bd bl par pv W mk0 sv0 (L ++ [p]) log stk lv g cap := by
  have l1 := hl.dag; have l2 := hl.log1; have l3 := hl.log2; have l4 := hl.top
  have g1 := (h.gne hl).1
  have hlo : b0 + p < w0.heap.size := by omega
  refine ⟨(h.gr.setMark hp W).congr (mkOf_snoc _ _ _ _).symm, (set_far (by omega)).trans h.walks, (set_far (by omega)).trans h.stack, fun o => by rw [World.frozen?_setCell]; exact h.free o, ⟨?_, ownsRow_setCell_below h.lg.own hlo _⟩, ownsRow_setCell_below h.own (by simp; omega) _, h.room, h.lies, h.touch.setCell (fun _ => .inl (by simp; omega)) _⟩
  rw [Below.heap_setCell _ _ _ _ (by simp; omega)]
  exact h.lg.var

/-- A vertex is pushed: behind the append. -/
theorem WS.pushed (h : WS w0 w m bv b0 N bd bl par pv W mk0 sv0 L log stk lv g cap) (hl : Lay w0 m b0 N bd bl sv0) {p g' cap' : Nat} {o : Obj}
    (hown : w1.ownsRow (bd + 2) 26 1 (.slice (some ⟨g', 0, none⟩) (stk.length + 1) cap') (stk.length + 1) (vptrs b0 stk ++ [vptr b0 p])) (hg : (w.alloc o).grownBy w1 (some g)) (hat : some g = some g' ∨ g' = w.heap.size + 1) :
    WS w0 w1 m bv b0 N bd bl par pv W mk0 sv0 L log (stk ++ [p]) lv g' cap' := by
  have l1 := hl.dag; have l2 := hl.log1; have l3 := hl.log2; have l4 := hl.top
  obtain ⟨g1, g2⟩ := h.gne hl
  have ht : Touch (fun k => k = g) w w1 := ((Touch.refl _ w).alloc o).grown hg (fun k hk _ => by simpa using hk.symm)
  have hne : ¬ bd = g := by omega
  have hroom : 0 < cap' ∧ cap' ≤ maxLen := by
    rcases hown.2 with ⟨h0, _⟩ | ⟨q, c, cur, hv, _, _, hn, hm, _⟩
    · simp at h0
    · simp at hv; omega
  refine ⟨h.gr.touch ht (fun k hk => by omega), ht.cell h.walks hne, ht.cell h.stack hne, ?_, ⟨ht.heap h.lg.var (fun e => g2 e.symm), ht.owns h.lg.own (fun k hk e => ?_)⟩, by rw [vptrs_snoc, List.length_append]; exact hown, hroom, ?_, h.touch.next ht (fun k hk e => ?_)⟩
  · intro o
    have := World.block_lt_of_cell? w _ h.stack
    exact (World.frozen?_of_block (ht.block bd this hne)).trans (h.free o)
  · subst e
    exact own_own h.lg.own h.own (by decide) k rfl hk
  · rcases hat with e | e
    · simp at e; subst e; exact h.lies
    · right; have := h.touch.size; omega
  · subst e
    rcases h.lies with e | e
    · exact .inr (.inr (.inr e))
    · omega

/-- What the walk leaves. -/
structure WEnd (w0 w : World) (m bv b0 N bd bl : Nat) (par : Nat → List Nat) (pv : Nat → Value) (W : Int) (mk0 : Nat → Int) (sv0 : Value) (log : List Nat) (lv : Value) (g cap : Nat) : Prop where
  gr : Graph w m bv b0 N par pv (mkOf W mk0 log)
  walks : w.cell? ⟨bd, 27, none⟩ = some (.int .u64 W)
  stack : w.cell? ⟨bd, 28, none⟩ = some (.slice (some ⟨g, 0, none⟩) 0 cap)
  free : ∀ o, w.frozen? ⟨bd, o, none⟩ = w0.frozen? ⟨bd, o, none⟩
  lg : LogAt w bl w0.heap.size lv (logv log)
  own : w.ownsRow (bd + 2) 26 1 (.slice (some ⟨g, 0, none⟩) 0 cap) 0 []
  room : cap ≤ maxLen
  lies : sv0.ownBlock = some g ∨ w0.heap.size ≤ g
  touch : Touch (fun k => (b0 ≤ k ∧ k < b0 + m) ∨ k = bd ∨ k = bl ∨ sv0.ownBlock = some k) w0 w

theorem WS.kept (h : WS w0 w m bv b0 N bd bl par pv W mk0 sv0 L log [] lv g cap) (hl : Lay w0 m b0 N bd bl sv0) (hk : Kept bd g cap (bd + 2) w w1) (hL : ∀ x, x ∈ L ↔ x ∈ log) :
    WEnd w0 w1 m bv b0 N bd bl par pv W mk0 sv0 log lv g cap := by
  have l1 := hl.dag; have l2 := hl.log1; have l3 := hl.log2; have l4 := hl.top
  obtain ⟨g1, g2⟩ := h.gne hl
  refine ⟨(h.gr.touch hk.touch (fun k hk => by omega)).congr (mkOf_congr hL), (hk.rest 27 (by omega)).trans h.walks, hk.stack, fun o => (hk.frozen _).trans (h.free o), ⟨hk.touch.heap h.lg.var (by omega), hk.touch.owns h.lg.own (fun k hk' e => ?_)⟩, hk.own, h.room.2, h.lies, h.touch.next hk.touch (fun k hk' e => ?_)⟩
  · rcases e with e | e
    · subst e
      have := (h.lg.own.lt _ hk').1; omega
    · subst e
      exact own_own h.lg.own h.own (by decide) k rfl hk'
  · rcases e with e | e
    · exact .inr (.inl e)
    · subst e
      rcases h.lies with e | e
      · exact .inr (.inr (.inr e))
      · omega
end

end Go.Proofs.Ybulkbngq

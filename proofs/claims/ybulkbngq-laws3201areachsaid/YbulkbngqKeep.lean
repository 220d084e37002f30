/-
  '(*DAG).keepStack' (10).
-/
import Derived.Test.YbulkbngqHeap
namespace Go.Proofs.Ybulkbngq
open Go.RowKit
set_option linter.unusedVariables false

theorem zero26 : ∀ w, (zeroValue 26).run Yba.prog w = .ok (.pointer none) w := fun w => by kernel_rfl

set_option maxHeartbeats 400000 in
theorem keep_any (bd g cap base : Nat) (w : World) (hown : w.ownsRow base 26 1 (.slice (some ⟨g, 0, none⟩) 0 cap) 0 []) (hcap : 0 < cap) (hmax : cap ≤ maxLen) (hbd : bd < base) (sv : Value)
    (hc : w.cell? ⟨bd, 28, none⟩ = some sv) (hf : w.frozen? ⟨bd, 28, none⟩ = false) :
    Calls Yba.prog 10 #[.pointer (some ⟨bd, 0, none⟩), .slice (some ⟨g, 0, none⟩) 0 cap] w fun e w' => e = .returned (.tuple #[]) ∧
      w' = (w.setCells g 0 (List.replicate cap (.pointer none))).setCell ⟨bd, 28, none⟩ (.slice (some ⟨g, 0, none⟩) 0 cap) := by
  have hg : base ≤ g := (hown.lt g rfl).1
  have hcl : ∀ ty, (Builtin.clear_ #[25] ty #[.slice (some ⟨g, 0, none⟩) cap cap]).run Yba.prog w = .ok (.tuple #[]) (w.setCells g 0 (List.replicate cap (.pointer none))) :=
    fun ty => Lib.run_clear_slice w 25 26 ty (.pointer none) Yba.underlying25 zero26 rfl rfl g 0 cap cap hcap (fun j hj => by rw [Nat.zero_add]; exact (own_room hown j hj).1) (fun j hj => by rw [Nat.zero_add]; exact (own_room hown j hj).2)
  have c1 : (w.setCells g 0 (List.replicate cap (.pointer none))).cell? ⟨bd, 28, none⟩ = some sv := (World.cell?_setCells_out g _ 0 w ⟨bd, 28, none⟩ (fun e => by simp at e; omega)).trans hc
  have c2 : (w.setCells g 0 (List.replicate cap (.pointer none))).frozen? ⟨bd, 28, none⟩ = false := (World.frozen?_setCells g _ 0 w ⟨bd, 28, none⟩).trans hf
  generalize hW : w.setCells g 0 (List.replicate cap (.pointer none)) = w1 at *
  have HW : Hid (w.setCells g 0 (List.replicate cap (.pointer none)) = w1) := hW
  clear hW
  unfold maxLen at hmax
  go_enter Yba.func10, Yba.ntmps10
  go_wp2
  go_end0
  exact ⟨rfl, rfl⟩

/-- What keepStack leaves, said without the world written out. -/
structure Kept (bd g cap base : Nat) (w w' : World) : Prop where
  own : w'.ownsRow base 26 1 (.slice (some ⟨g, 0, none⟩) 0 cap) 0 []
  stack : w'.cell? ⟨bd, 28, none⟩ = some (.slice (some ⟨g, 0, none⟩) 0 cap)
  rest : ∀ o, o ≠ 28 → w'.cell? ⟨bd, o, none⟩ = w.cell? ⟨bd, o, none⟩
  frozen : ∀ p, w'.frozen? p = w.frozen? p
  touch : Touch (fun k => k = bd ∨ k = g) w w'

theorem kept_of (bd g cap base : Nat) (w : World) (hown : w.ownsRow base 26 1 (.slice (some ⟨g, 0, none⟩) 0 cap) 0 []) (hbd : bd < base) (sv : Value)
    (hc : w.cell? ⟨bd, 28, none⟩ = some sv) (vs : List Value) :
    Kept bd g cap base w ((w.setCells g 0 vs).setCell ⟨bd, 28, none⟩ (.slice (some ⟨g, 0, none⟩) 0 cap)) := by
  have hg : base ≤ g := (hown.lt g rfl).1
  have c1 : ∀ o, (w.setCells g 0 vs).cell? ⟨bd, o, none⟩ = w.cell? ⟨bd, o, none⟩ := fun o => World.cell?_setCells_out g _ 0 w ⟨bd, o, none⟩ (fun e => by simp at e; omega)
  refine ⟨ownsRow_setCell_below (own_cleared hown 0 vs) hbd _, set_same ((c1 28).trans hc), ?_, ?_, ?_⟩
  · intro o ho
    exact (set_off (fun e => ho e.symm)).trans (c1 o)
  · intro p
    rw [World.frozen?_setCell]
    exact World.frozen?_setCells g vs 0 w p
  · exact ((setCells_touch g vs 0 w).mono (fun k _ h => .inr h)).setCell (fun _ => .inl rfl) _

theorem keep_said (bd g cap base : Nat) (w : World) (hown : w.ownsRow base 26 1 (.slice (some ⟨g, 0, none⟩) 0 cap) 0 []) (hcap : 0 < cap) (hmax : cap ≤ maxLen) (hbd : bd < base) (sv : Value)
    (hc : w.cell? ⟨bd, 28, none⟩ = some sv) (hf : w.frozen? ⟨bd, 28, none⟩ = false) :
    Calls Yba.prog 10 #[.pointer (some ⟨bd, 0, none⟩), .slice (some ⟨g, 0, none⟩) 0 cap] w fun e w' => e = .returned (.tuple #[]) ∧ Kept bd g cap base w w' := by
  refine (keep_any bd g cap base w hown hcap hmax hbd sv hc hf).mono ?_
  rintro e w' ⟨rfl, hw⟩
  exact ⟨rfl, by rw [hw]; exact kept_of bd g cap base w hown hbd sv hc _⟩
end Go.Proofs.Ybulkbngq

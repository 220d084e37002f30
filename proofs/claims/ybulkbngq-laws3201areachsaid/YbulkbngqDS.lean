/-
  The state at the head of the loop over the starts.
-/
import Derived.Test.YbulkbngqL5
import Derived.Test.YbulkbngqL8
import Derived.Test.YbulkbngqL4
namespace Go.Proofs.Ybulkbngq
open Go.RowKit Plain
set_option linter.unusedVariables false

def contV (bs : Nat) : Value := .func (.func 6) #[] #[.pointer (some ⟨bs, 0, none⟩)]

structure DS (w : World) (m bv b0 N bd bs : Nat) (par : Nat → List Nat) (pv : Nat → Value) (stop : Int) (k : Nat) (mk : Nat → Int) (x0 : Option Addr) (c0 : Nat) : Prop where
  gr : Graph w m bv b0 N par pv mk
  bound : ∀ i, 0 ≤ mk i ∧ mk i ≤ (k : Int)
  walks : w.cell? ⟨bd, 27, none⟩ = some (.int .u64 (k : Int))
  f27 : w.frozen? ⟨bd, 27, none⟩ = false
  f28 : w.frozen? ⟨bd, 28, none⟩ = false
  stack : w.cell? ⟨bd, 28, none⟩ = some (.slice x0 0 c0)
  own : w.ownsRow (bd + 2) 26 1 (.slice x0 0 c0) 0 []
  room : c0 ≤ maxLen
  stopc : w.cell? ⟨bs, 0, none⟩ = some (.int .u64 stop)
  cont : w.cell? ⟨bd + 1, 0, none⟩ = some (contV bs)
  dag : N ≤ bd
  lo : bs < bv
  size : bd + 2 ≤ w.heap.size

section
variable {w0 w3 w4 w9 w w' : World} {m bv b0 N bd bs bl : Nat} {par : Nat → List Nat} {pv : Nat → Value} {stop : Int} {k : Nat} {mk : Nat → Int} {x0 : Option Addr} {c0 : Nat}

theorem DS.keep (h : DS w m bv b0 N bd bs par pv stop k mk x0 c0) (ht : Touch (fun _ => False) w w') : DS w' m bv b0 N bd bs par pv stop k mk x0 c0 := by
  have hb := World.block_lt_of_cell? w _ h.stack
  have hf : ∀ o, w'.frozen? ⟨bd, o, none⟩ = w.frozen? ⟨bd, o, none⟩ := fun o => World.frozen?_of_block (ht.block bd hb (fun e => e))
  exact ⟨h.gr.touch ht (fun _ _ e => e), h.bound, ht.cell h.walks (fun e => e), (hf 27).trans h.f27, (hf 28).trans h.f28, ht.cell h.stack (fun e => e), ht.owns h.own (fun _ _ e => e), h.room, ht.cell h.stopc (fun e => e), ht.cell h.cont (fun e => e), h.dag, h.lo, by have := ht.size; have := h.size; omega⟩

theorem DS.lay (h : DS w m bv b0 N bd bs par pv stop k mk x0 c0) (hl : bl < w.heap.size) (h2 : bd + 2 ≤ bl) (hold : ∀ q, (Value.slice x0 0 c0).ownBlock = some q → q ≠ bl) : Lay w m b0 N bd bl (.slice x0 0 c0) :=
  ⟨h.dag, h2, hl, fun q hq => ⟨(h.own.lt q hq).1, (h.own.lt q hq).2, hold q hq⟩, h.gr.top⟩

/-- Behind the walk. -/
theorem DS.walked (h : DS w3 m bv b0 N bd bs par pv stop k mk x0 c0) (hb2 : bd + 2 ≤ bl) {log : List Nat} {lv : Value} {g cap : Nat} (hE : WEnd w3 w4 m bv b0 N bd bl par pv ((k : Int) + 1) mk (.slice x0 0 c0) log lv g cap) :
    DS w4 m bv b0 N bd bs par pv stop (k + 1) (mkOf ((k : Int) + 1) mk log) (some ⟨g, 0, none⟩) cap := by
  have l1 := h.dag; have l2 := h.lo; have l3 := h.gr.lo; have l4 := h.gr.top
  have hold : ∀ q, (Value.slice x0 0 c0).ownBlock = some q → bd + 2 ≤ q := fun q hq => (h.own.lt q hq).1
  refine ⟨hE.gr, ?_, by have := hE.walks; rw [show (((k + 1 : Nat)) : Int) = (k : Int) + 1 by omega]; exact this, (hE.free 27).trans h.f27, (hE.free 28).trans h.f28, hE.stack, hE.own, hE.room, hE.touch.cell h.stopc ?_, hE.touch.cell h.cont ?_, l1, l2, by have := hE.touch.size; have := h.size; omega⟩
  · intro i
    have := mkOf_bd (W := (k : Int) + 1) (mk0 := mk) (L := log) (fun i => by have := h.bound i; omega) i
    omega
  · rintro (e | e | e | e)
    · simp at e; omega
    · simp at e; omega
    · simp at e; omega
    · have := hold _ e; simp at this; omega
  · rintro (e | e | e | e)
    · simp at e; omega
    · simp at e
    · simp at e; omega
    · have := hold _ e; simp at this

end
theorem touch_new {w w1 w2 : World} {b : Nat} (h : Touch (fun _ => False) w w1) (h' : Touch (fun k => k = b) w1 w2) (hb : w.heap.size ≤ b) : Touch (fun _ => False) w w2 := h.next h' (fun k hk e => by omega)

end Go.Proofs.Ybulkbngq

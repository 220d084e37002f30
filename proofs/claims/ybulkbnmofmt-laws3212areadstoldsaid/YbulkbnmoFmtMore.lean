/-
  '(*input).more' (14), as the law's input comes to it: pos and off are 0; the buffer holds what the reader has handed out so far.
-/
import Derived.Test.YbulkbnmoFmtRead
import Derived.Test.YbulkbnmoFmtFacts
import Derived.Deep.RegionHeld3
namespace Go.Proofs.YbulkbnmoFmt
open Go.RowKit
set_option linter.unusedVariables false
attribute [local go_sem] Go.wp_at_zero Go.wp_at_succ

structure InAt (w : World) (bi br gd dc ch : Nat) (ds : List UInt8) (fv : Value) (t g cap : Nat) (ev : Value) : Prop where
  rd : RdAt w br gd dc ch ds fv t
  r : w.cell? ⟨bi, 0, none⟩ = some (.iface 27 (.pointer (some ⟨br, 0, none⟩)))
  buf : w.cell? ⟨bi, 1, none⟩ = some (.slice (some ⟨g, 0, none⟩) t cap)
  pos : w.cell? ⟨bi, 2, none⟩ = some (.int .i64 0)
  off : w.cell? ⟨bi, 3, none⟩ = some (.int .i64 0)
  err : w.cell? ⟨bi, 4, none⟩ = some ev
  free : ∀ o, w.frozen? ⟨bi, o, none⟩ = false
  row : ∃ cur : List Value, w.heap[g]? = some (.cells cur.toArray 5 (0, 0)) ∧ cur.length = cap ∧ cur.take t = bytesV (ds.take t)
  caps : 16384 ≤ cap ∧ cap ≤ 32768
  ord : gd < br ∧ br < bi

/-- The input is ready for more: nothing was read yet, or the buffer is more's own. -/
def Rdy (bi t g cap : Nat) : Prop := (t = 0 ∧ cap = 16384) ∨ (0 < t ∧ bi < g)

/-- 32768 zero bytes. -/
def zrow : List Value := List.replicate 32768 (.int .u8 0)
theorem zrow_len : zrow.length = 32768 := List.length_replicate
theorem make32 (w : World) : (Instr.makeSlice 22 (.int .i64 0) (.int .i64 32768)).run Ybaf.prog w = .ok (.slice (some ⟨w.heap.size, 0, none⟩) 0 32768) (w.alloc (.cells zrow.toArray 5)) := by
  obtain ⟨i0, hi0, hz0, hz1, hz2⟩ := info_parts info5
  have hr := run_make (P := Ybaf.prog) w 22 5 i0 (.int .u8 0) Ybaf.underlying22 hi0 hz0 .i64 .i64 0 32768 (by omega) (by omega) (by rw [hz2]; omega) (by omega)
  rw [hz1] at hr
  have e : (madeCells (Value.int .u8 0).cells ((32768 : Int).toNat * 1)) = zrow.toArray := by
    apply Array.ext'
    show (madeCells #[Value.int .u8 0] ((32768 : Int).toNat * 1)).toList = _
    rw [toList_madeCells_one]
    rfl
  rw [e] at hr
  exact hr

theorem nil_ahead (a : Addr) (w : World) : (nilAhead 210 27 (.pointer (some a)) "Read").run Ybaf.prog w = .ok (some false) w := by kernel_rfl
theorem method_read (a : Addr) (w : World) : (method 210 27 (.pointer (some a)) "Read").run Ybaf.prog w = .ok (33, .pointer (some a)) w := by kernel_rfl


theorem take_splice {α : Type} (L cs : List α) (t : Nat) (h : t ≤ L.length) : (splice L t cs).take (t + cs.length) = L.take t ++ cs := by
  unfold splice
  rw [← List.append_assoc]
  apply List.take_left'
  simp; omega
theorem bytesV_take (ds : List UInt8) (t n : Nat) : bytesV (ds.take t) ++ bytesV ((ds.drop t).take n) = bytesV (ds.take (t + n)) := by
  unfold bytesV
  rw [← List.map_append, List.take_add]

section
variable {w w' : World} {bi br gd dc ch : Nat} {ds : List UInt8} {fv ev : Value} {t g cap n : Nat}

/-- A store of a field of the input alone: what is elsewhere stays. -/
theorem InAt.touch (h : InAt w bi br gd dc ch ds fv t g cap ev) {S : Nat → Prop} (ht : Touch S w w') (h1 : ¬ S bi) (h2 : ¬ S br) (h3 : ¬ S gd) (h4 : ¬ S g) : InAt w' bi br gd dc ch ds fv t g cap ev := by
  obtain ⟨cur, c1, c2, c3⟩ := h.row
  exact ⟨h.rd.touch ht h2 h3, ht.cell h.r h1, ht.cell h.buf h1, ht.cell h.pos h1, ht.cell h.off h1, ht.cell h.err h1, fun o => (World.frozen?_of_block (ht.block bi (World.block_lt_of_cell? w _ h.r) h1)).trans (h.free o), ⟨cur, ht.heap c1 h4, c2, c3⟩, h.caps, h.ord⟩

/-- A new buffer of twice the size. -/
theorem in_fresh (hI : InAt w bi br gd dc ch ds fv 0 g cap ev) :
    InAt ((w.setCell ⟨bi, 1, none⟩ (.slice (some ⟨w.heap.size, 0, none⟩) 0 32768)).alloc (.cells zrow.toArray 5)) bi br gd dc ch ds fv 0 w.heap.size 32768 ev ∧ bi < w.heap.size ∧
    Touch (fun k => br ≤ k) w ((w.setCell ⟨bi, 1, none⟩ (.slice (some ⟨w.heap.size, 0, none⟩) 0 32768)).alloc (.cells zrow.toArray 5)) := by
  have ho := hI.ord
  have hb := World.block_lt_of_cell? w _ hI.r
  have hT : Touch (fun k => k = bi) w ((w.setCell ⟨bi, 1, none⟩ (.slice (some ⟨w.heap.size, 0, none⟩) 0 32768)).alloc (.cells zrow.toArray 5)) := ((Touch.refl (fun k => k = bi) w).setCell (fun _ => rfl) _).alloc _
  have hs : ∀ p v, (w.setCell ⟨bi, 1, none⟩ (.slice (some ⟨w.heap.size, 0, none⟩) 0 32768)).cell? p = some v → ((w.setCell ⟨bi, 1, none⟩ (.slice (some ⟨w.heap.size, 0, none⟩) 0 32768)).alloc (.cells zrow.toArray 5)).cell? p = some v := fun p v h => cell_alloc h _
  refine ⟨⟨hI.rd.touch hT (by omega) (by omega), hs _ _ ((set_off (by omega)).trans hI.r), hs _ _ (set_same hI.buf), hs _ _ ((set_off (by omega)).trans hI.pos), hs _ _ ((set_off (by omega)).trans hI.off), hs _ _ ((set_off (by omega)).trans hI.err), ?_, ⟨zrow, ?_, zrow_len, by rw [List.take_zero, List.take_zero]; rfl⟩, by omega, ho⟩, hb, hT.mono (fun k _ e => by omega)⟩
  · intro o
    refine (World.frozen?_of_block (Below.heap_alloc _ _ _ (by simpa using hb))).trans ?_
    rw [World.frozen?_setCell]
    exact hI.free o
  · have := heap_alloc_new (w.setCell ⟨bi, 1, none⟩ (.slice (some ⟨w.heap.size, 0, none⟩) 0 32768)) (.cells zrow.toArray 5)
    rw [show (w.setCell ⟨bi, 1, none⟩ (.slice (some ⟨w.heap.size, 0, none⟩) 0 32768)).heap.size = w.heap.size by simp] at this
    exact this

/-- Behind one Read that has handed out n bytes. -/
theorem in_step {cur : List Value} (hI : InAt w bi br gd dc ch ds fv t g cap ev) (hbg : bi < g) (hP : ReadPost w.drew w' br gd dc ch ds fv t n g t cur) (hcl : cur.length = cap) (hct : cur.take t = bytesV (ds.take t)) (hn : t + n ≤ ds.length) (hn1 : 1 ≤ n) :
    InAt ((w'.setCell ⟨bi, 4, none⟩ .nilIface).setCell ⟨bi, 1, none⟩ (.slice (some ⟨g, 0, none⟩) (t + n) cap)).drew bi br gd dc ch ds fv (t + n) g cap .nilIface ∧
    Touch (fun k => br ≤ k) w ((w'.setCell ⟨bi, 4, none⟩ .nilIface).setCell ⟨bi, 1, none⟩ (.slice (some ⟨g, 0, none⟩) (t + n) cap)).drew := by
  have ho := hI.ord
  have hcp := hI.caps
  have hsm := hI.rd.small
  have hrm := hI.rd.room
  have hnb : ¬ (bi = br ∨ g ≤ bi) := by rintro (e | e) <;> omega
  have hc : ∀ o v, w.cell? ⟨bi, o, none⟩ = some v → w'.cell? ⟨bi, o, none⟩ = some v := fun o v h => hP.touch.cell (w := w.drew) h hnb
  have hT : Touch (fun k => k = bi) w' ((w'.setCell ⟨bi, 4, none⟩ .nilIface).setCell ⟨bi, 1, none⟩ (.slice (some ⟨g, 0, none⟩) (t + n) cap)).drew := (((Touch.refl (fun k => k = bi) w').setCell (fun _ => rfl) _).setCell (fun _ => rfl) _).drew
  have hlen : (bytesV ((ds.drop t).take n)).length = n := by rw [bytesV_len, List.length_take, List.length_drop]; omega
  refine ⟨⟨hP.rd.touch hT (by omega) (by omega), (set_off (by omega)).trans ((set_off (by omega)).trans (hc _ _ hI.r)), set_same ((set_off (by omega)).trans (hc _ _ hI.buf)), (set_off (by omega)).trans ((set_off (by omega)).trans (hc _ _ hI.pos)), (set_off (by omega)).trans ((set_off (by omega)).trans (hc _ _ hI.off)), (set_off (by omega)).trans (set_same (hc _ _ hI.err)), ?_, ⟨_, hT.heap hP.row (by omega), ?_, ?_⟩, hcp, ho⟩, ?_⟩
  · intro o
    show ((w'.setCell ⟨bi, 4, none⟩ .nilIface).setCell ⟨bi, 1, none⟩ (.slice (some ⟨g, 0, none⟩) (t + n) cap)).frozen? ⟨bi, o, none⟩ = false
    rw [World.frozen?_setCell, World.frozen?_setCell]
    exact (World.frozen?_of_block (hP.touch.block bi (World.block_lt_of_cell? w _ hI.r) hnb)).trans (hI.free o)
  · rw [length_splice _ _ _ (by rw [hlen]; omega)]; exact hcl
  · have e := take_splice cur (bytesV ((ds.drop t).take n)) t (by omega)
    rw [hlen] at e
    rw [e, hct, bytesV_take]
  · refine Touch.next (w1 := w') ?_ hT (fun k _ e => by omega)
    exact Touch.next (w1 := w.drew) ((Touch.refl _ w).drew) hP.touch (fun k _ e => by rcases e with e | e <;> omega)

/-- Behind one Read that has nothing left: the input keeps the reader's failure. -/
theorem in_fail (hI : InAt w bi br gd dc ch ds fv t g cap ev) (hbg : bi < g) (ht : Touch (fun _ => False) w.drew w') :
    InAt ((w'.setCell ⟨bi, 4, none⟩ fv).setCell ⟨bi, 1, none⟩ (.slice (some ⟨g, 0, none⟩) t cap)).drew bi br gd dc ch ds fv t g cap fv ∧
    Touch (fun k => br ≤ k) w ((w'.setCell ⟨bi, 4, none⟩ fv).setCell ⟨bi, 1, none⟩ (.slice (some ⟨g, 0, none⟩) t cap)).drew := by
  have ho := hI.ord
  have h0 : Touch (fun _ => False) w w' := ((Touch.refl _ w).drew).trans ht
  have hc : ∀ o v, w.cell? ⟨bi, o, none⟩ = some v → w'.cell? ⟨bi, o, none⟩ = some v := fun o v h => h0.cell h (fun e => e)
  have hT : Touch (fun k => k = bi) w' ((w'.setCell ⟨bi, 4, none⟩ fv).setCell ⟨bi, 1, none⟩ (.slice (some ⟨g, 0, none⟩) t cap)).drew := (((Touch.refl (fun k => k = bi) w').setCell (fun _ => rfl) _).setCell (fun _ => rfl) _).drew
  obtain ⟨cur, c1, c2, c3⟩ := hI.row
  refine ⟨⟨(hI.rd.touch h0 (fun e => e) (fun e => e)).touch hT (by omega) (by omega), (set_off (by omega)).trans ((set_off (by omega)).trans (hc _ _ hI.r)), set_same ((set_off (by omega)).trans (hc _ _ hI.buf)), (set_off (by omega)).trans ((set_off (by omega)).trans (hc _ _ hI.pos)), (set_off (by omega)).trans ((set_off (by omega)).trans (hc _ _ hI.off)), (set_off (by omega)).trans (set_same (hc _ _ hI.err)), ?_, ⟨cur, hT.heap (h0.heap c1 (fun e => e)) (by omega), c2, c3⟩, hI.caps, ho⟩, ?_⟩
  · intro o
    show ((w'.setCell ⟨bi, 4, none⟩ fv).setCell ⟨bi, 1, none⟩ (.slice (some ⟨g, 0, none⟩) t cap)).frozen? ⟨bi, o, none⟩ = false
    rw [World.frozen?_setCell, World.frozen?_setCell]
    exact (World.frozen?_of_block (h0.block bi (World.block_lt_of_cell? w _ hI.r) (fun e => e))).trans (hI.free o)
  · exact Touch.next (w1 := w') (h0.mono (fun _ _ e => e.elim)) hT (fun k _ e => by omega)
end
end Go.Proofs.YbulkbnmoFmt

/-
  LawS3212AReads (3) from 'data := make([]byte, 0, c+len(tail))' on. (The frames written out by program.)
-/
import Derived.Test.YbulkbnmoFmtLawE
import Derived.Deep.AppendSrc
namespace Go.Proofs.YbulkbnmoFmt
open Go.RowKit Go.Extern.Stop Go.Stop Go.Extern
set_option linter.unusedVariables false

/-- n zero bytes. -/
def zrowN (n : Nat) : List Value := List.replicate n (.int .u8 0)
theorem zrowN_len (n : Nat) : (zrowN n).length = n := List.length_replicate
theorem makeN (w : World) (n : Nat) (hn : n ≤ 4096) : (Instr.makeSlice 22 (.int .i64 0) (.int .i64 (n : Int))).run Ybaf.prog w = .ok (.slice (some ⟨w.heap.size, 0, none⟩) 0 n) (w.alloc (.cells (zrowN n).toArray 5)) := by
  obtain ⟨i0, hi0, hz0, hz1, hz2⟩ := info_parts info5
  have hr := run_make (P := Ybaf.prog) w 22 5 i0 (.int .u8 0) Ybaf.underlying22 hi0 hz0 .i64 .i64 0 n (by omega) (by omega) (by rw [hz2]; omega) (by omega)
  rw [hz1] at hr
  have e : (madeCells (Value.int .u8 0).cells ((n : Int).toNat * 1)) = (zrowN n).toArray := by
    apply Array.ext'
    show (madeCells #[Value.int .u8 0] ((n : Int).toNat * 1)).toList = _
    rw [toList_madeCells_one]
    simp [zrowN]
  rw [e] at hr
  simpa using hr

/-- Bytes that lie behind an address. -/
def BytesAt (w : World) (ta : Option Addr) (ts : List UInt8) : Prop := 0 < ts.length → ∃ a, ta = some a ∧ ∀ j, (h : j < ts.length) → w.cell? (a.add j) = some (byteV ts[j])

theorem src_bytes (w : World) (ta : Option Addr) (tc : Nat) (ts : List UInt8) (h : BytesAt w ta ts) : Src Ybaf.prog 1 22 (.slice ta ts.length tc) ts.length (bytesV ts) w := by
  have h1 : ∀ u ∈ bytesV ts, u.oneCell' = true := by
    intro u hu
    obtain ⟨x, _, rfl⟩ := List.mem_map.1 hu
    rfl
  cases ta with
  | none =>
    rcases Nat.eq_zero_or_pos ts.length with h0 | h0
    · obtain rfl := List.length_eq_zero_iff.1 h0
      exact Src.ofNil w Ybaf.underlying22 tc
    · obtain ⟨a, e, _⟩ := h h0
      cases e
  | some a =>
    refine Src.ofSlice w Ybaf.underlying22 a ts.length tc (bytesV ts) (by rw [bytesV_len]; omega) ?_ h1
    intro j u hj
    have hj' : j < ts.length := by
      have := (List.getElem?_eq_some_iff.1 hj).1
      rwa [bytesV_len] at this
    obtain ⟨a', e, hc⟩ := h (by omega)
    cases e
    rw [hc j hj']
    rw [bytesV_get _ _ hj'] at hj
    exact hj

theorem append_room (w : World) (g n cap : Nat) (ta : Option Addr) (tc : Nat) (ts : List UInt8) (h : BytesAt w ta ts) (hroom : n + ts.length ≤ cap) (hc : ∀ j, j < cap → (w.cell? ⟨g, j, none⟩).isSome = true ∧ w.frozen? ⟨g, j, none⟩ = false) (ty : TypeId) :
    (Builtin.append_ #[22, 22] ty #[.slice (some ⟨g, 0, none⟩) n cap, .slice ta ts.length tc]).run Ybaf.prog w = .ok (.slice (some ⟨g, 0, none⟩) (n + ts.length) cap) (w.setCells g n (bytesV ts)) := by
  obtain ⟨i0, hi0, hz0, hz1, hz2⟩ := info_parts info5
  have hl := bytesV_len ts
  have hr := run_append_room_src (P := Ybaf.prog) w 22 22 ty 5 i0 Ybaf.underlying22 hi0 g 0 n cap (.slice ta ts.length tc) ts.length (bytesV ts) (by rw [hz1]; exact src_bytes w ta tc ts h) hroom (fun j hj => by rw [hz1]; exact (hc _ (by omega)).1) (fun j hj => by rw [hz1]; exact (hc _ (by omega)).2)
  rw [hz1] at hr
  simpa using hr

/-- The data in their row: behind the two appends. -/
def madeD (w : World) (N : Nat) (xs ys : List UInt8) : World := ((w.alloc (.cells (zrowN N).toArray 5)).setCells w.heap.size 0 (bytesV xs)).setCells w.heap.size xs.length (bytesV ys)

theorem room_new (w : World) (N : Nat) : ∀ j, j < N → ((w.alloc (.cells (zrowN N).toArray 5)).cell? ⟨w.heap.size, j, none⟩).isSome = true ∧ (w.alloc (.cells (zrowN N).toArray 5)).frozen? ⟨w.heap.size, j, none⟩ = false := by
  intro j hj
  have hn := heap_alloc_new w (.cells (zrowN N).toArray 5)
  refine ⟨?_, frozen_of_row _ _ j _ _ hn⟩
  rw [cell_of_row _ _ j _ _ _ hn]
  simp [zrowN, hj]
theorem room_next (w : World) (N : Nat) (xs : List UInt8) : ∀ j, j < N → (((w.alloc (.cells (zrowN N).toArray 5)).setCells w.heap.size 0 (bytesV xs)).cell? ⟨w.heap.size, j, none⟩).isSome = true ∧ ((w.alloc (.cells (zrowN N).toArray 5)).setCells w.heap.size 0 (bytesV xs)).frozen? ⟨w.heap.size, j, none⟩ = false := by
  intro j hj
  have h := room_new w N j hj
  exact ⟨World.isSome_setCells _ _ _ _ _ h.1, by rw [World.frozen?_setCells]; exact h.2⟩

theorem madeD_touch (w : World) (N : Nat) (xs ys : List UInt8) : Touch (fun _ => False) w (madeD w N xs ys) :=
  (((Touch.refl (fun _ => False) w).alloc _).next (setCells_touch w.heap.size _ _ _) (fun k hk e => by omega)).next (setCells_touch w.heap.size _ _ _) (fun k hk e => by omega)

theorem madeD_bytes (w : World) (N : Nat) (xs ys : List UInt8) (h : xs.length + ys.length ≤ N) (j : Nat) (hj : j < (xs ++ ys).length) : (madeD w N xs ys).cell? ⟨w.heap.size, j, none⟩ = some (byteV (xs ++ ys)[j]) := by
  have hlx := bytesV_len xs
  have hly := bytesV_len ys
  have hl : (xs ++ ys).length = xs.length + ys.length := List.length_append
  unfold madeD
  by_cases hx : j < xs.length
  · rw [World.cell?_setCells_out _ _ _ _ _ (fun _ _ => .inl hx)]
    have := World.cell?_setCells_in w.heap.size (bytesV xs) 0 (w.alloc (.cells (zrowN N).toArray 5)) (fun i hi => (room_new w N _ (by omega)).1) j (by omega)
    rw [Nat.zero_add] at this
    rw [this, List.getElem_append_left hx]
    congr 1
    simp [bytesV]
  · obtain ⟨i, rfl⟩ : ∃ i, j = xs.length + i := ⟨j - xs.length, by omega⟩
    have := World.cell?_setCells_in w.heap.size (bytesV ys) xs.length ((w.alloc (.cells (zrowN N).toArray 5)).setCells w.heap.size 0 (bytesV xs)) (fun i hi => (room_next w N xs _ (by omega)).1) i (by omega)
    rw [this, List.getElem_append_right (by omega)]
    congr 1
    simp [bytesV]

theorem madeD_size (w : World) (N : Nat) (xs ys : List UInt8) : w.heap.size < (madeD w N xs ys).heap.size := by
  have h1 := (setCells_touch w.heap.size (bytesV xs) 0 (w.alloc (.cells (zrowN N).toArray 5))).size
  have h2 := (setCells_touch w.heap.size (bytesV ys) xs.length ((w.alloc (.cells (zrowN N).toArray 5)).setCells w.heap.size 0 (bytesV xs))).size
  rw [World.size_alloc] at h1
  unfold madeD
  omega

end Go.Proofs.YbulkbnmoFmt

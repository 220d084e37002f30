/-
  '(*input).offset' (7), '(*input).ended' (10), '(*input).unexpectedAt' (11).
-/
import Derived.Test.YbulkbnmoFmtMores
import Derived.LaidEql
import Derived.RowKitTokens
import Derived.Deep.RegionHeld3
namespace Go.Proofs.YbulkbnmoFmt
open Go.RowKit Go.Extern.Stop Go.Stop Go.Extern
set_option linter.unusedVariables false
attribute [local go_sem] Go.wp_at_zero Go.wp_at_succ

theorem comp44 : (Ybaf.prog.info? 44).map (·.comparable) = some true := by kernel_rfl
theorem size46 : (Ybaf.prog.info? 46).map (·.size) = some 1 := by kernel_rfl

theorem neq_same (a : Addr) (w : World) : (binOp .neq 25 (.iface 44 (.pointer (some a))) (.iface 44 (.pointer (some a)))).run Ybaf.prog w = .ok (.bool false) w := by
  obtain ⟨i, hi, hcmp⟩ := Option.map_eq_some_iff.1 comp44
  obtain ⟨j, hj, hjs⟩ := Option.map_eq_some_iff.1 size46
  simp only [binOp]
  simp [Op.equal, Op.maxDepth, run_equalIn_iface_ptr_same w 9998 a Ybaf.underlying25 Ybaf.underlying44 hi hcmp hj]
theorem neq_other (a b : Addr) (ca cb : Array Value) (ta tb : TypeId) (w : World) (hne : a ≠ b) (ha : w.heap[a.block]? = some (.cells ca ta (0, 0))) (hb : w.heap[b.block]? = some (.cells cb tb (0, 0))) :
    (binOp .neq 25 (.iface 44 (.pointer (some a))) (.iface 44 (.pointer (some b)))).run Ybaf.prog w = .ok (.bool true) w := by
  obtain ⟨i, hi, hcmp⟩ := Option.map_eq_some_iff.1 comp44
  obtain ⟨j, hj, hjs⟩ := Option.map_eq_some_iff.1 size46
  simp only [binOp]
  simp [Op.equal, Op.maxDepth, run_equalIn_iface_ptr_other w 9998 Ybaf.underlying25 Ybaf.underlying44 hi hcmp hj (by rw [hjs]; decide) hne ha hb]

set_option maxHeartbeats 1000000 in
theorem offset_any (bi : Nat) (p : Nat) (w : World) (h2 : w.cell? ⟨bi, 2, none⟩ = some (.int .i64 (p : Int))) (h3 : w.cell? ⟨bi, 3, none⟩ = some (.int .i64 0)) (hp : p ≤ 5000) :
    Calls Ybaf.prog 7 #[.pointer (some ⟨bi, 0, none⟩)] w fun e w' => e = .returned (.int .i64 (p : Int)) ∧ ∃ n, w' = w.drewN n := by
  go_enter Ybaf.func7, Ybaf.ntmps7
  go_wp2
  go_quiet (fail)
  go_wp2
  go_ret
  exact ⟨by simp, _, rfl⟩

/-- A new error of errors.New's make at block H. -/
def NewErr (w w' : World) (H : Nat) : Prop := w.heap.size ≤ H ∧ (∃ t : ByteArray, w'.heap[H]? = some (.cells #[.string t] 46 (0, 0))) ∧ Touch (fun _ => False) w w'
/-- A new *fmt.wrapError at block H that holds the error at a. -/
def WrapErr (w w' : World) (H : Nat) (a : Addr) : Prop := w.heap.size ≤ H ∧ (∃ t : ByteArray, w'.heap[H]? = some (.cells #[.string t, .iface 44 (.pointer (some a))] 98 (0, 0))) ∧ Touch (fun _ => False) w w'

theorem newErr_mk (w w1 : World) (t : ByteArray) (h : Touch (fun _ => False) w w1) : NewErr w (w1.alloc (.cells #[.string t] 46)) w1.heap.size := ⟨h.size, ⟨t, heap_alloc_new w1 _⟩, h.alloc _⟩

set_option maxHeartbeats 1000000 in
theorem ended_eof (bi : Nat) (a : Addr) (w : World) (h4 : w.cell? ⟨bi, 4, none⟩ = some (.iface 44 (.pointer (some a)))) (hg : w.cell? ⟨0, 0, none⟩ = some (.iface 44 (.pointer (some a)))) (h2 : w.cell? ⟨bi, 2, none⟩ = some (.int .i64 0)) (h3 : w.cell? ⟨bi, 3, none⟩ = some (.int .i64 0)) :
    Calls Ybaf.prog 10 #[.pointer (some ⟨bi, 0, none⟩)] w fun e w' => ∃ H, e = .returned (.iface 44 (.pointer (some ⟨H, 0, none⟩))) ∧ NewErr w w' H := by
  have k1 := neq_same a
  go_enter Ybaf.func10, Ybaf.ntmps10
  go_wp2
  go_quiet (fail)
  go_wp2_with fail
  refine (offset_any bi 0 _ (by exact h2) (by exact h3) (by omega)).mono ?_
  rintro e w1 ⟨rfl, n1, rfl⟩
  go_wp2_with fail
  refine (new_any _ _).mono ?_
  rintro e w2 ⟨rfl, rfl⟩
  go_wp2
  go_ret
  exact ⟨_, rfl, newErr_mk w _ _ ((Touch.refl _ w).drewN _)⟩

set_option maxHeartbeats 1000000 in
theorem ended_fail (F : Interp) (bi : Nat) (a b : Addr) (s : ByteArray) (ca cb : Array Value) (ta tb : TypeId) (w : World) (hF : F.answers w.tape) (h4 : w.cell? ⟨bi, 4, none⟩ = some (.iface 44 (.pointer (some a)))) (hg : w.cell? ⟨0, 0, none⟩ = some (.iface 44 (.pointer (some b)))) (hs : w.cell? a = some (.string s)) (hne : a ≠ b) (ha : w.heap[a.block]? = some (.cells ca ta (0, 0))) (hb : w.heap[b.block]? = some (.cells cb tb (0, 0))) :
    Calls Ybaf.prog 10 #[.pointer (some ⟨bi, 0, none⟩)] w fun e w' => ∃ H, e = .returned (.iface 70 (.pointer (some ⟨H, 0, none⟩))) ∧ WrapErr w w' H a := by
  have k1 := fun n => neq_other a b ca cb ta tb (w.drewN n) hne ha hb
  have HS : Hid (w.cell? a = some (.string s)) := hs
  have hlt : bi < w.heap.size := World.block_lt_of_cell? w _ h4
  clear ha hb hs
  go_enter Ybaf.func10, Ybaf.ntmps10
  go_wp2
  go_quiet (fail)
  go_wp2_with fail
  refine (errorf_wrap F w.heap.size a s _ (by exact hF) (by rw [World.cell?_alloc_at _ _ _ _ (by rfl)]; rfl) (cell_alloc (by exact HS.out) _)).mono ?_
  rintro e w2 ⟨rfl, t, rfl⟩
  go_wp2
  go_ret
  have hn := heap_alloc_new ((w.drewN nq).alloc (.cells #[.iface 44 (.pointer (some a))] 20)) (.cells #[.string t, .iface 44 (.pointer (some a))] 98)
  rw [World.size_alloc] at hn
  exact ⟨_, rfl, by simp, ⟨t, hn⟩, ((((Touch.refl _ w).drewN _).alloc _).alloc _).drew⟩

set_option maxRecDepth 100000 in
set_option maxHeartbeats 2000000 in
theorem unexpected_any (F : Interp) (bi g t cap i : Nat) (y : Int) (s : ByteArray) (w : World) (hF : F.answers w.tape) (h1 : w.cell? ⟨bi, 1, none⟩ = some (.slice (some ⟨g, 0, none⟩) t cap)) (h2 : w.cell? ⟨bi, 2, none⟩ = some (.int .i64 0)) (h3 : w.cell? ⟨bi, 3, none⟩ = some (.int .i64 0))
    (hy : w.cell? ⟨g, i, none⟩ = some (.int .u8 y)) (hi : i < t) (ht : t ≤ cap) (hcap : cap ≤ 32768) :
    Calls Ybaf.prog 11 #[.pointer (some ⟨bi, 0, none⟩), .int .i64 (i : Int), .string s] w fun e w' => ∃ H, e = .returned (.iface 44 (.pointer (some ⟨H, 0, none⟩))) ∧ NewErr w w' H := by
  have b0 : (0 : Int) ≤ (i : Int) := by omega
  have b1 : (i : Int) < (t : Int) := by omega
  have c0 : (0 : Int) + (i : Int) = (i : Int) := by omega
  have c1 : IntKind.i64.wrap (i : Int) = (i : Int) := by simp [IntKind.wrap, IntKind.bits, IntKind.signed]; omega
  have hlt : bi < w.heap.size := World.block_lt_of_cell? w _ h1
  have hlg : g < w.heap.size := World.block_lt_of_cell? w _ hy
  go_enter Ybaf.func11, Ybaf.ntmps11
  go_wp2
  go_region_held3 (fun w' => w'.cell? ⟨bi, 1, none⟩ = some (.slice (some ⟨g, 0, none⟩) t cap) ∧ w'.cell? ⟨bi, 2, none⟩ = some (.int .i64 0) ∧ w'.cell? ⟨g, i, none⟩ = some (.int .u8 y)) (first | (exact ⟨h1, h2, hy⟩) | (exact ⟨cell_alloc h1 _, cell_alloc h2 _, cell_alloc hy _⟩) | (exact ⟨cell_alloc (cell_alloc h1 _) _, cell_alloc (cell_alloc h2 _) _, cell_alloc (cell_alloc hy _) _⟩))
    (first | (go_at_call 7; refine (offset_any bi 0 _ (by exact h2) (by exact h3) (by omega)).mono ?_; rintro e w1 ⟨rfl, n1, rfl⟩) | (go_at_call 15; refine (errorf_plain F w.heap.size (IntKind.i64.wrap ((i : Int) + 1)) y s _ (by exact hF) (by rw [World.cell?_alloc_at _ _ _ _ (by rfl)]; rfl) (by rw [World.cell?_alloc_at _ _ _ _ (by rfl)]; rfl) (by rw [World.cell?_alloc_at _ _ _ _ (by rfl)]; rfl)).mono ?_; rintro e w2 ⟨rfl, t2, rfl⟩))
  rename_i Q' K hK hHeld
  have hn := heap_alloc_new ((w.drewN (1 + n1)).alloc (Obj.cells #[Value.iface 2 (Value.int IntKind.i64 (IntKind.i64.wrap ((i : Int) + 1))), Value.iface 9 (Value.string s), Value.iface 5 (Value.int IntKind.u8 y)] 20)) (.cells #[.string t2] 46)
  rw [World.size_alloc] at hn
  refine hK _ _ ?_
  show Code.wp Ybaf.prog .ret (bodyPost Ybaf.prog Ybaf.f11 _) _ _
  go_wp2
  go_ret
  exact ⟨_, rfl, by simp, ⟨t2, hn⟩, ((((Touch.refl _ w).drewN _).alloc _).alloc _).drew⟩
end Go.Proofs.YbulkbnmoFmt

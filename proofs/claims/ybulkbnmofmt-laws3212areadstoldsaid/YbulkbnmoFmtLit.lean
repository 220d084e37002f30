/-
  '(*input).literal' (6): the word ws against the reader's data ds; m: how many bytes at the head are the same.
-/
import Derived.Test.YbulkbnmoFmtEnds
import Derived.Deep.LoopGhost
import Derived.Laws.IdiomStrings
namespace Go.Proofs.YbulkbnmoFmt
open Go.RowKit Go.Extern.Stop Go.Stop Go.Extern
set_option linter.unusedVariables false

/-- The word's slice in memory: its bytes lie at the head of a block below B; nil where it is empty, perhaps. -/
def WordAt (w : World) (aw : Option Addr) (wc : Nat) (ws : List UInt8) (B : Nat) : Prop :=
  ws.length ≤ wc ∧ ws.length ≤ 4096 ∧ (0 < ws.length → ∃ gw, aw = some ⟨gw, 0, none⟩ ∧ gw < B ∧ ∀ j, (h : j < ws.length) → w.cell? ⟨gw, j, none⟩ = some (byteV ws[j]))

theorem WordAt.touch {w w' : World} {aw : Option Addr} {wc : Nat} {ws : List UInt8} {B : Nat} (h : WordAt w aw wc ws B) (ht : Touch (fun k => B ≤ k) w w') : WordAt w' aw wc ws B := by
  obtain ⟨h1, h2, h3⟩ := h
  refine ⟨h1, h2, fun h0 => ?_⟩
  obtain ⟨gw, e, hb, hc⟩ := h3 h0
  exact ⟨gw, e, hb, fun j hj => ht.cell (hc j hj) (by simp; omega)⟩

/-- m bytes at the head are the same, and no more. -/
structure Common (ws ds : List UInt8) (m : Nat) : Prop where
  le1 : m ≤ ws.length
  le2 : m ≤ ds.length
  same : ∀ j, (h1 : j < ws.length) → (h2 : j < ds.length) → j < m → ws[j] = ds[j]
  other : (h1 : m < ws.length) → (h2 : m < ds.length) → ws[m] ≠ ds[m]

/-- Where the word was found. -/
structure LitOk (w w' : World) (bi br : Nat) (ds : List UInt8) (n t g cap : Nat) : Prop where
  buf : w'.cell? ⟨bi, 1, none⟩ = some (.slice (some ⟨g, 0, none⟩) t cap)
  pos : w'.cell? ⟨bi, 2, none⟩ = some (.int .i64 (n : Int))
  off : w'.cell? ⟨bi, 3, none⟩ = some (.int .i64 0)
  bytes : ∀ j, (h : j < ds.length) → j < t → w'.cell? ⟨g, j, none⟩ = some (byteV ds[j])
  le : n ≤ t ∧ t ≤ ds.length ∧ t ≤ cap ∧ cap ≤ 32768 ∧ 16384 ≤ cap
  touch : Touch (fun k => br ≤ k) w w'

/-- Where it was not: an error at block H. -/
structure LitNot (w w' : World) (bi br H : Nat) : Prop where
  pos : w'.cell? ⟨bi, 2, none⟩ = some (.int .i64 0)
  off : w'.cell? ⟨bi, 3, none⟩ = some (.int .i64 0)
  new : w.heap.size ≤ H
  touch : Touch (fun k => br ≤ k) w w'

theorem in_byte {w : World} {bi br gd dc ch : Nat} {ds : List UInt8} {fv ev : Value} {t g cap : Nat} (h : InAt w bi br gd dc ch ds fv t g cap ev) (j : Nat) (hj : j < ds.length) (hjt : j < t) : w.cell? ⟨g, j, none⟩ = some (byteV ds[j]) := by
  obtain ⟨cur, c1, c2, c3⟩ := h.row
  rw [cell_of_row w g j cur.toArray 5 (0, 0) c1]
  have : (cur.take t)[j]? = some (byteV ds[j]) := by
    rw [c3, bytesV_get _ _ (by simp; omega)]
    simp
  rw [List.getElem?_take] at this
  simpa [hjt] using this

theorem byte_neq (x y : UInt8) (h : x ≠ y) : ((x.toNat : Int) == (y.toNat : Int)) = false := by
  rw [beq_eq_false_iff_ne]
  intro e
  apply h
  exact UInt8.toNat_inj.1 (by omega)

/-- What literal answers. -/
def LitPost (w : World) (bi br : Nat) (ws ds : List UInt8) (m : Nat) (fa ea : Addr) (e : Ending) (w' : World) : Prop :=
  (m = ws.length ∧ e = .returned .nilIface ∧ ∃ t g cap, LitOk w w' bi br ds m t g cap) ∨
  (m < ws.length ∧ (m < ds.length ∨ fa = ea) ∧ ∃ H, e = .returned (.iface 44 (.pointer (some ⟨H, 0, none⟩))) ∧ LitNot w w' bi br H ∧ ∃ t : ByteArray, w'.heap[H]? = some (.cells #[.string t] 46 (0, 0))) ∨
  (m < ws.length ∧ m = ds.length ∧ fa ≠ ea ∧ ∃ H, e = .returned (.iface 70 (.pointer (some ⟨H, 0, none⟩))) ∧ LitNot w w' bi br H ∧ ∃ t : ByteArray, w'.heap[H]? = some (.cells #[.string t, .iface 44 (.pointer (some fa))] 98 (0, 0)))

set_option maxRecDepth 100000 in
set_option maxHeartbeats 4000000 in
theorem literal_any (F : Interp) (bi br gd dc ch : Nat) (ds ws : List UInt8) (m : Nat) (fa ea : Addr) (s1 s2 : ByteArray) (t g cap : Nat) (aw : Option Addr) (wc : Nat) {cf ce : Array Value} {tf te : TypeId} (w : World) (hF : F.answers w.tape)
    (h : InAt w bi br gd dc ch ds (.iface 44 (.pointer (some fa))) t g cap .nilIface) (hr : Rdy bi t g cap) (hw : WordAt w aw wc ws br) (hm : Common ws ds m)
    (hg : w.cell? ⟨0, 0, none⟩ = some (.iface 44 (.pointer (some ea)))) (h0 : 0 < br)
    (hfa : w.heap[fa.block]? = some (.cells cf tf (0, 0))) (hfs : w.cell? fa = some (.string s1)) (hfb : fa.block < br) (hea : w.heap[ea.block]? = some (.cells ce te (0, 0))) (heb : ea.block < br) :
    Calls Ybaf.prog 6 #[.pointer (some ⟨bi, 0, none⟩), .slice aw ws.length wc] w fun e w' => LitPost w bi br ws ds m fa ea e w' := by
  have hwl : ws.length ≤ 4096 := by have := hw.1; have := hw.2.1; omega
  have A : Hid (InAt w bi br gd dc ch ds (.iface 44 (.pointer (some fa))) t g cap .nilIface ∧ Rdy bi t g cap ∧ WordAt w aw wc ws br ∧ Common ws ds m ∧ w.cell? ⟨0, 0, none⟩ = some (.iface 44 (.pointer (some ea))) ∧ w.heap[fa.block]? = some (.cells cf tf (0, 0)) ∧ w.cell? fa = some (.string s1) ∧ w.heap[ea.block]? = some (.cells ce te (0, 0))) := ⟨h, hr, hw, hm, hg, hfa, hfs, hea⟩
  clear h hr hw hm hg hfa hfs hea
  go_enter Ybaf.func6, Ybaf.ntmps6
  go_wp2
  go_loopg [9] ws.length (fun k c wr => ∃ i t g cap, k + i = ws.length ∧ i ≤ m ∧ c = .int .i64 (i : Int) ∧ i ≤ t ∧ InAt wr bi br gd dc ch ds (.iface 44 (.pointer (some fa))) t g cap .nilIface ∧ Rdy bi t g cap ∧ Touch (fun k => br ≤ k) w wr)
  case atStart => exact ⟨0, t, g, cap, by omega, by omega, rfl, by omega, A.out.1, A.out.2.1, Touch.refl _ _⟩
  case round =>
    obtain ⟨i, t, g, cap, hki, him, rfl, hit, hI, hR, hT⟩ := hrel
    by_cases hlt : i < ws.length
    · obtain ⟨_, _, hw, hm, hg, hfa, hfs, hea⟩ := A.out
      have hm1 := hm.le1
      have hm2 := hm.le2
      obtain ⟨gw, rfl, hgb, hwc⟩ := (hw.touch hT).2.2 (by omega)
      have hwi := hwc i hlt
      have hd1 : decide ((i : Int) < (ws.length : Int)) = true := by simp; omega
      have hwcap := hw.1
      have hwcap2 := hw.2.1
      have C : Hid (Common ws ds m ∧ InAt wr bi br gd dc ch ds (.iface 44 (.pointer (some fa))) t g cap .nilIface ∧ Rdy bi t g cap ∧ Touch (fun k => br ≤ k) w wr ∧ (∀ j, (h : j < ws.length) → wr.cell? ⟨gw, j, none⟩ = some (byteV ws[j]))) := ⟨hm, hI, hR, hT, hwc⟩
      clear hI hR hT hwc hm hg hfa hfs hea hw
      simp only [byteV] at hwi
      by_cases hds : i < ds.length
      · go_wp2_with fail
        refine (ensure_yes bi br gd dc ch ds _ t g cap (i + 1) _ (by exact C.out.2.1) C.out.2.2.1 (by omega) (by omega)).mono ?_
        rintro e w2 ⟨rfl, t', g', cap', q1, q2, q3, q4⟩
        have hdi := in_byte q2 i hds (by omega)
        have c1 := q2.buf
        have c2 := q2.pos
        have hcp := q2.caps
        have hsm := q2.rd.small
        have hrm := q2.rd.room
        have c0 : (0 : Int) + (i : Int) = (i : Int) := by omega
        have c3 : IntKind.i64.wrap (i : Int) = (i : Int) := by simp [IntKind.wrap, IntKind.bits, IntKind.signed]; omega
        have b0 : (0 : Int) ≤ (i : Int) := by omega
        have b1 : (i : Int) < (t' : Int) := by omega
        have D : Hid (InAt w2 bi br gd dc ch ds (.iface 44 (.pointer (some fa))) t' g' cap' .nilIface ∧ Rdy bi t' g' cap' ∧ Touch (fun k => br ≤ k) w w2 ∧ Touch (fun k => br ≤ k) wr w2) := ⟨q2, q3, C.out.2.2.2.1.trans q4, q4⟩
        simp only [byteV] at hdi
        clear q2 q3 q4 hwi
        by_cases hlm : i < m
        · have hwd := C.out.1.same i hlt hds hlm
          have hne : ((ds[i].toNat : Int) == (ws[i].toNat : Int)) = true := by rw [hwd]; simp
          clear hwd
          go_wp2
          go_quiet (fail)
          have E : Hid (InAt (w2.drewN nq) bi br gd dc ch ds (.iface 44 (.pointer (some fa))) t' g' cap' .nilIface ∧ Rdy bi t' g' cap' ∧ Touch (fun k => br ≤ k) w (w2.drewN nq)) := ⟨D.out.1.drewN nq, D.out.2.1, D.out.2.2.1.drewN nq⟩
          clear c1 c2 hdi D C
          go_wp2
          go_roundg (gk - 1)
          case measure => omega
          case rel => exact ⟨i + 1, t', g', cap', by omega, by omega, rfl, by omega, E.out.1, E.out.2.1, E.out.2.2⟩
        · obtain rfl : i = m := by omega
          have hwd := C.out.1.other (by omega) (by omega)
          have hne : ((ds[i].toNat : Int) == (ws[i].toNat : Int)) = false := byte_neq _ _ (fun e => hwd e.symm)
          have kc := fun n => run_convert_bytes_back (P := Ybaf.prog) (w2.drewN n) 22 9 5 ⟨gw, 0, none⟩ wc ws Ybaf.underlying22 Ybaf.underlying5 Ybaf.underlying9 (fun j hj => by
            have := D.out.2.2.2.cell (C.out.2.2.2.2 j hj) (by simp; omega)
            by_cases hj0 : j = 0
            · subst hj0; simpa [Addr.add, byteV] using this
            · simpa [Addr.add, byteV, hj0] using this)
          have HN : Hid (i < ds.length) := hds
          clear hwd
          go_wp2
          go_quiet (fail)
          go_wp2_with fail
          refine (unexpected_any F bi g' t' cap' i _ _ _ (by exact D.out.2.2.1.tape ▸ hF) (by exact D.out.1.buf) (by exact D.out.1.pos) (by exact D.out.1.off) (by exact in_byte D.out.1 i hds (by omega)) (by omega) (by omega) (by omega)).mono ?_
          rintro e w3 ⟨H, rfl, q5, q6, q7⟩
          have E : Hid (LitNot w w3 bi br H ∧ ∃ t : ByteArray, w3.heap[H]? = some (.cells #[.string t] 46 (0, 0))) := ⟨⟨q7.cell (by exact D.out.1.pos) (fun e => e), q7.cell (by exact D.out.1.off) (fun e => e), Nat.le_trans D.out.2.2.1.size q5, (D.out.2.2.1.drewN nq).trans (q7.mono (fun _ _ e => e.elim))⟩, q6⟩
          clear c1 c2 hdi D C q5 q6 q7 kc
          go_wp2
          go_ret
          exact .inr (.inl ⟨hlt, .inl HN.out, H, rfl, E.out⟩)
      · obtain rfl : i = m := by omega
        obtain rfl : i = ds.length := by omega
        go_wp2_with fail
        refine (ensure_no bi br gd dc ch ds 44 _ t g cap (ds.length + 1) _ (by exact C.out.2.1) C.out.2.2.1 (by omega) (by omega)).mono ?_
        rintro e w2 ⟨rfl, g', cap', q2, q4⟩
        have D : Hid (InAt w2 bi br gd dc ch ds (.iface 44 (.pointer (some fa))) ds.length g' cap' (.iface 44 (.pointer (some fa))) ∧ Touch (fun k => br ≤ k) w w2) := ⟨q2, C.out.2.2.2.1.trans q4⟩
        clear q2 q4 hwi C
        go_wp2_with fail
        by_cases hfe : fa = ea
        · refine (ended_eof bi fa _ (by exact D.out.1.err) (by rw [hfe]; exact D.out.2.cell A.out.2.2.2.2.1 (by simp; omega)) (by exact D.out.1.pos) (by exact D.out.1.off)).mono ?_
          rintro e w3 ⟨H, rfl, q5, q6, q7⟩
          have E : Hid (fa = ea ∧ LitNot w w3 bi br H ∧ ∃ t : ByteArray, w3.heap[H]? = some (.cells #[.string t] 46 (0, 0))) := ⟨hfe, ⟨q7.cell (by exact D.out.1.pos) (fun e => e), q7.cell (by exact D.out.1.off) (fun e => e), Nat.le_trans D.out.2.size q5, D.out.2.trans (q7.mono (fun _ _ e => e.elim))⟩, q6⟩
          clear D q5 q6 q7 hfe
          go_wp2
          go_ret
          exact .inr (.inl ⟨hlt, .inr E.out.1, H, rfl, E.out.2⟩)
        · refine (ended_fail F bi fa ea s1 _ _ _ _ _ (by exact D.out.2.tape ▸ hF) (by exact D.out.1.err) (by exact D.out.2.cell A.out.2.2.2.2.1 (by simp; omega)) (by exact D.out.2.cell A.out.2.2.2.2.2.2.1 (by simp; omega)) hfe (by exact D.out.2.heap A.out.2.2.2.2.2.1 (by simp; omega)) (by exact D.out.2.heap A.out.2.2.2.2.2.2.2 (by simp; omega))).mono ?_
          rintro e w3 ⟨H, rfl, q5, q6, q7⟩
          have E : Hid (fa ≠ ea ∧ LitNot w w3 bi br H ∧ ∃ t : ByteArray, w3.heap[H]? = some (.cells #[.string t, .iface 44 (.pointer (some fa))] 98 (0, 0))) := ⟨hfe, ⟨q7.cell (by exact D.out.1.pos) (fun e => e), q7.cell (by exact D.out.1.off) (fun e => e), Nat.le_trans D.out.2.size q5, D.out.2.trans (q7.mono (fun _ _ e => e.elim))⟩, q6⟩
          clear D q5 q6 q7 hfe
          go_wp2
          go_ret
          exact .inr (.inr ⟨hlt, rfl, E.out.1, H, rfl, E.out.2⟩)
    · have hm1 := A.out.2.2.2.1.le1
      obtain rfl : i = m := by omega
      have hd1 : decide ((i : Int) < (ws.length : Int)) = false := by simp; omega
      have c2 := hI.pos
      have f2 := hI.free 2
      have D : Hid (i = ws.length ∧ LitOk w (wr.setCell ⟨bi, 2, none⟩ (.int .i64 (ws.length : Int))) bi br ds i t g cap) := by
        have e : i = ws.length := by omega
        refine ⟨e, ⟨(set_off (by omega)).trans hI.buf, by rw [e]; exact set_same hI.pos, (set_off (by omega)).trans hI.off, ?_, ?_, hT.setCell (fun _ => by have := hI.ord; simp; omega) _⟩⟩
        · intro j hj hjt
          rcases hR with ⟨h1, _⟩ | ⟨_, h1⟩
          · omega
          · exact (set_far (by omega)).trans (in_byte hI j hj hjt)
        · have := hI.rd.small
          have := hI.caps
          have := hI.rd.room
          omega
      clear hI hR hT
      go_wp2
      go_ret
      exact .inl ⟨D.out.1, rfl, t, g, cap, D.out.2⟩
end Go.Proofs.YbulkbnmoFmt

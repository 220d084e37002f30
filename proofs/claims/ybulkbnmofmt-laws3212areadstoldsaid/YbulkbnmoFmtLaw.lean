/-
  LawS3212AReads (3), whole.
-/
import Derived.Test.YbulkbnmoFmtLawH
import Derived.Lib.SlBytesConst
import Derived.Deep.Upon
namespace Go.Proofs.YbulkbnmoFmt
open Go.RowKit Go.Extern.Stop Go.Stop Go.Extern
set_option linter.unusedVariables false

theorem word_lit (w : World) (ws : List UInt8) (fr : Nat × Nat) (hl : ws.length ≤ 4096) : WordAt (w.alloc (.cells (bytesV ws).toArray 5 fr)) (some ⟨w.heap.size, 0, none⟩) ws.length ws (w.alloc (.cells (bytesV ws).toArray 5 fr)).heap.size := by
  refine ⟨Nat.le_refl _, hl, fun _ => ⟨_, rfl, by simp, fun j hj => ?_⟩⟩
  rw [World.cell?_alloc_mark]
  simp [bytesV_get _ _ hj]

theorem append_empty (w : World) (ao : Option Addr) (oc : Nat) (os : List UInt8) (h : os.length = 0) (ty : TypeId) : (Builtin.append_ #[22, 22] ty #[.slice none 0 0, .slice ao os.length oc]).run Ybaf.prog w = .ok (.slice none 0 0) w := by
  obtain ⟨i0, hi0, hz0, hz1, hz2⟩ := info_parts info5
  obtain rfl := List.length_eq_zero_iff.1 h
  exact run_append_nothing w 22 22 ty 5 i0 Ybaf.underlying22 hi0 none 0 0 (Nat.le_refl _) (.slice ao 0 oc) (by rw [hz1]; exact src_bytes w ao oc [] (by intro h; simp at h))

theorem append_fresh (w : World) (ao : Option Addr) (oc : Nat) (os : List UInt8) (ho : BytesAt w ao os) (h0 : 0 < os.length) (h1 : os.length ≤ 1024) :
    ∃ cap w1, (∀ ty, (Builtin.append_ #[22, 22] ty #[.slice none 0 0, .slice ao os.length oc]).run Ybaf.prog w = .ok (.slice (some ⟨w.heap.size, 0, none⟩) os.length cap) w1) ∧ Touch (fun _ => False) w w1 ∧ WordAt w1 (some ⟨w.heap.size, 0, none⟩) cap os w1.heap.size ∧ 0 < cap := by
  obtain ⟨i0, hi0, hz0, hz1, hz2⟩ := info_parts info5
  obtain ⟨a, rfl, hc⟩ := ho h0
  have hge := grownCap_ge w os.length 0 5
  refine ⟨grownCap w os.length 0 5, _, fun ty => run_append_nil (P := Ybaf.prog) w 22 ty 5 i0 (.int .u8 0) Ybaf.underlying22 hi0 hz0 a os.length oc (bytesV os) (by rw [hz1, bytesV_len]; omega) ?_ h0 (by omega) (by rw [hz2]; omega), ((Touch.refl _ w).drew).alloc _, ⟨hge, by omega, fun _ => ⟨_, rfl, by simp, ?_⟩⟩, by omega⟩
  · intro j u hj
    have hj' : j < os.length := by
      have := (List.getElem?_eq_some_iff.1 hj).1
      rwa [bytesV_len] at this
    rw [hc j hj']
    rw [bytesV_get _ _ hj'] at hj
    exact hj
  · intro j hj
    have hn := heap_alloc_new w.drew (.cells ((bytesV os).toArray ++ Builtin.zeroCells (Value.int .u8 0).cells (grownCap w os.length 0 5 - os.length)) 5)
    refine (cell_of_row _ _ j _ _ _ hn).trans ?_
    rw [Array.getElem?_append_left (by simp [bytesV_len, hj])]
    simp [bytesV_get _ _ hj]

set_option maxRecDepth 100000 in
set_option maxHeartbeats 4000000 in
theorem law_any (F : Interp) (sel cut chunk : Nat) (fl : Bool) (ao ta : Option Addr) (oc tc : Nat) (os ts : List UInt8) (ea : Addr) (s2 : ByteArray) {ce : Array Value} {te : TypeId} (w : World) (hF : F.answers w.tape) (hsel : sel < 256) (hcut : cut < 65536) (hch : chunk < 256) (ho : BytesAt w ao os) (ht : BytesAt w ta ts)
    (hg : w.cell? ⟨0, 0, none⟩ = some (.iface 44 (.pointer (some ea)))) (hea : w.heap[ea.block]? = some (.cells ce te (0, 0))) (hec : w.cell? ea = some (.string s2)) :
    Calls Ybaf.prog 3 #[.int .u8 (sel : Int), .slice ao os.length oc, .int .u16 (cut : Int), .slice ta ts.length tc, .int .u8 (chunk : Int), .bool fl] w fun e w' => e = .returned (.bool true) ∧ Touch (fun _ => False) w w' := by
  have A : Hid (F.answers w.tape ∧ BytesAt w ao os ∧ BytesAt w ta ts ∧ w.cell? ⟨0, 0, none⟩ = some (.iface 44 (.pointer (some ea))) ∧ w.heap[ea.block]? = some (.cells ce te (0, 0)) ∧ w.cell? ea = some (.string s2)) := ⟨hF, ho, ht, hg, hea, hec⟩
  clear hF ho ht hg hea hec
  go_enter Ybaf.func3, Ybaf.ntmps3
  refine seq_stop (b' := tailFrom 1 (Ybaf.f3.body.getD .skip)) rfl ?_
  intro K1 hK1
  go_wp2
  refine hK1.out _ _ ?_
  clear hK1
  conv => arg 2; whnf
  refine seq_stop (b' := tailFrom 3 (Ybaf.f3.body.getD .skip)) rfl ?_
  intro K1 hK1
  by_cases h1 : os.length ≤ 1024
  · by_cases h2 : ts.length ≤ 1024
    · have d1 : decide ((1024 : Int) < (os.length : Int)) = false := by simp; omega
      have d2 : decide ((1024 : Int) < (ts.length : Int)) = false := by simp; omega
      go_wp2
      refine hK1.out _ _ ?_
      clear hK1 d1 d2
      conv => arg 2; whnf
      refine seq_stop (b' := tailFrom 4 (Ybaf.f3.body.getD .skip)) rfl ?_
      intro K1 hK1
      go_wp2
      refine hK1.out _ _ ?_
      clear hK1
      conv => arg 2; whnf
      refine seq_stop (b' := tailFrom 12 (Ybaf.f3.body.getD .skip)) rfl ?_
      intro K1 hK1
      have e1 : (sel : Int).tmod 4 = ((sel % 4 : Nat) : Int) := by rw [Int.tmod_eq_emod_of_nonneg (by omega)]; omega
      have kc := fun (w : World) (C : Array Value) (n c : Nat) => Lib.run_convert_bytes_const (P := Ybaf.prog) w 22 5 C n c Ybaf.underlying22 Ybaf.underlying5
      have hq : sel % 4 = 0 ∨ sel % 4 = 1 ∨ sel % 4 = 2 ∨ sel % 4 = 3 := by omega
      rcases hq with hq | hq | hq | hq
      · rw [hq] at e1
        clear hq
        go_wp2
        refine hK1.out _ _ ?_
        have T : Touch (fun _ => False) w (w.alloc (.cells (bytesV [116, 114, 117, 101]).toArray 5 (4, 5))) := (Touch.refl _ w).alloc _
        exact tail12 w F chunk fl ea (some ⟨w.heap.size, 0, none⟩) ta 4 4 ts.length tc cut s2 [116, 114, 117, 101] ts _ rfl rfl A.out.1 hch hcut (word_lit w [116, 114, 117, 101] (4, 5) (by decide)) (by decide) (.inr ⟨_, rfl, by decide⟩) (A.out.2.2.1.touch T) h2 (T.cell A.out.2.2.2.1 (fun e => e)) (T.heap A.out.2.2.2.2.1 (fun e => e)) (T.cell A.out.2.2.2.2.2 (fun e => e)) T
      · rw [hq] at e1
        clear hq
        go_wp2
        refine hK1.out _ _ ?_
        have T : Touch (fun _ => False) w (w.alloc (.cells (bytesV [102, 97, 108, 115, 101]).toArray 5 (5, 6))) := (Touch.refl _ w).alloc _
        exact tail12 w F chunk fl ea (some ⟨w.heap.size, 0, none⟩) ta 5 5 ts.length tc cut s2 [102, 97, 108, 115, 101] ts _ rfl rfl A.out.1 hch hcut (word_lit w [102, 97, 108, 115, 101] (5, 6) (by decide)) (by decide) (.inr ⟨_, rfl, by decide⟩) (A.out.2.2.1.touch T) h2 (T.cell A.out.2.2.2.1 (fun e => e)) (T.heap A.out.2.2.2.2.1 (fun e => e)) (T.cell A.out.2.2.2.2.2 (fun e => e)) T
      · rw [hq] at e1
        clear hq
        go_wp2
        refine hK1.out _ _ ?_
        have T : Touch (fun _ => False) w (w.alloc (.cells (bytesV [110, 117, 108, 108]).toArray 5 (4, 5))) := (Touch.refl _ w).alloc _
        exact tail12 w F chunk fl ea (some ⟨w.heap.size, 0, none⟩) ta 4 4 ts.length tc cut s2 [110, 117, 108, 108] ts _ rfl rfl A.out.1 hch hcut (word_lit w [110, 117, 108, 108] (4, 5) (by decide)) (by decide) (.inr ⟨_, rfl, by decide⟩) (A.out.2.2.1.touch T) h2 (T.cell A.out.2.2.2.1 (fun e => e)) (T.heap A.out.2.2.2.2.1 (fun e => e)) (T.cell A.out.2.2.2.2.2 (fun e => e)) T
      · rw [hq] at e1
        clear hq kc
        by_cases h0 : os.length = 0
        · have k1 := append_empty w ao oc os h0
          clear h0
          go_wp2_with (at_builtin; refine wpList_append_run _ rfl _ _ 22 rfl _ _ _ _ (k1 _) rfl rfl ?_)
          refine hK1.out _ _ ?_
          exact tail12 w F chunk fl ea none ta 0 0 ts.length tc cut s2 [] ts _ rfl rfl A.out.1 hch hcut ⟨by decide, by decide, by simp⟩ (by decide) (.inl ⟨rfl, rfl, rfl⟩) A.out.2.2.1 h2 A.out.2.2.2.1 A.out.2.2.2.2.1 A.out.2.2.2.2.2 (Touch.refl _ _)
        · obtain ⟨cap, w1, k1, T, hw, hcap⟩ := append_fresh w ao oc os A.out.2.1 (by omega) h1
          clear h0
          go_wp2_with (at_builtin; refine wpList_append_run _ rfl _ _ 22 rfl _ _ _ _ (k1 _) rfl rfl ?_)
          refine hK1.out _ _ ?_
          exact tail12 w F chunk fl ea (some ⟨w.heap.size, 0, none⟩) ta os.length cap ts.length tc cut s2 os ts _ rfl rfl (by exact T.tape ▸ A.out.1) hch hcut hw h1 (.inr ⟨_, rfl, hcap⟩) (A.out.2.2.1.touch T) h2 (T.cell A.out.2.2.2.1 (fun e => e)) (T.heap A.out.2.2.2.2.1 (fun e => e)) (T.cell A.out.2.2.2.2.2 (fun e => e)) T
    · have d1 : decide ((1024 : Int) < (os.length : Int)) = false := by simp; omega
      have d2 : decide ((1024 : Int) < (ts.length : Int)) = true := by simp; omega
      go_wp2
      go_ret
      exact ⟨rfl, Touch.refl _ _⟩
  · have d1 : decide ((1024 : Int) < (os.length : Int)) = true := by simp; omega
    go_wp2
    go_ret
    exact ⟨rfl, Touch.refl _ _⟩
end Go.Proofs.YbulkbnmoFmt

/-
  '(*DAG).walk' (7) with the law's visitor.
-/
import Derived.Test.YbulkbngqGraph
import Derived.Deep.LoopGhost
namespace Go.Proofs.Ybulkbngq
open Go.RowKit Plain
set_option linter.unusedVariables false

theorem WS.first {w0 w1 : World} {m bv b0 N bd bl st : Nat} {par : Nat → List Nat} {pv : Nat → Value} {wk : Int} {mk0 : Nat → Int} {sv0 : Value} {g cap : Nat} {o : Obj}
    (hl : Lay w0 m b0 N bd bl sv0) (hg : Graph w0 m bv b0 N par pv mk0) (hst : st < m) (hwk : w0.cell? ⟨bd, 27, none⟩ = some (.int .u64 (wk - 1))) (hsv : w0.cell? ⟨bd, 28, none⟩ = some sv0)
    (hlog : w0.heap[bl]? = some (.cells #[.slice none 0 0] 84 (0, 0)))
    (hown : w1.ownsRow (bd + 2) 26 1 (.slice (some ⟨g, 0, none⟩) (0 + 1) cap) (0 + 1) ([] ++ [vptr b0 st]))
    (hgrow : (((w0.setCell ⟨bd, 27, none⟩ (.int .u64 wk)).setCell ⟨b0 + st, 21, none⟩ (.int .u64 wk)).alloc o).grownBy w1 sv0.ownBlock) (hat : sv0.ownBlock = some g ∨ g = w0.heap.size + 1) :
    WS w0 w1 m bv b0 N bd bl par pv wk mk0 sv0 [st] [] [st] (.slice none 0 0) g cap := by
  have l1 := hl.dag; have l2 := hl.log1; have l3 := hl.log2; have l4 := hl.top
  have hroom : 0 < cap ∧ cap ≤ maxLen := by
    rcases hown.2 with ⟨h0, _⟩ | ⟨q, c, cur, hv, _, _, hn, hm, _⟩
    · simp at h0
    · simp at hv; omega
  have e1 : Graph (w0.setCell ⟨bd, 27, none⟩ (.int .u64 wk)) m bv b0 N par pv mk0 := hg.touch (S := fun k => k = bd) ((Touch.refl (fun k => k = bd) _).setCell (fun _ => rfl) _) (fun k hk => by omega)
  have e2 := e1.setMark hst wk
  have ht : Touch (fun k => sv0.ownBlock = some k) ((w0.setCell ⟨bd, 27, none⟩ (.int .u64 wk)).setCell ⟨b0 + st, 21, none⟩ (.int .u64 wk)) w1 := ((Touch.refl _ _).alloc o).grown hgrow (fun k hk _ => hk)
  have hn : ∀ k, sv0.ownBlock = some k → bd + 2 ≤ k := fun k hk => (hl.old k hk).1
  have hbd : ¬ sv0.ownBlock = some bd := fun e => by have := hn _ e; omega
  have c27 : ((w0.setCell ⟨bd, 27, none⟩ (.int .u64 wk)).setCell ⟨b0 + st, 21, none⟩ (.int .u64 wk)).cell? ⟨bd, 27, none⟩ = some (.int .u64 wk) := (set_far (by omega)).trans (set_same hwk)
  have c28 : ((w0.setCell ⟨bd, 27, none⟩ (.int .u64 wk)).setCell ⟨b0 + st, 21, none⟩ (.int .u64 wk)).cell? ⟨bd, 28, none⟩ = some sv0 := (set_far (by omega)).trans ((set_off (by omega)).trans hsv)
  have t0 : Touch (fun k => (b0 ≤ k ∧ k < b0 + m) ∨ k = bd ∨ k = bl ∨ sv0.ownBlock = some k) w0 ((w0.setCell ⟨bd, 27, none⟩ (.int .u64 wk)).setCell ⟨b0 + st, 21, none⟩ (.int .u64 wk)) :=
    (((Touch.refl _ _).setCell (fun _ => .inr (.inl rfl)) _)).setCell (fun _ => .inl (by simp; omega)) _
  refine ⟨(e2.touch ht (fun k hk e => by have := hn _ e; omega)).congr ?_, ht.cell c27 hbd, ht.cell c28 hbd, ?_, ⟨?_, World.ownsRow_nil _ _ _ _⟩, hown, hroom, ?_, t0.next ht (fun k _ e => .inr (.inr (.inr e)))⟩
  · have := mkOf_snoc wk mk0 [] st
    simp only [List.nil_append] at this
    rw [this]
    funext x
    simp [mkOf]
  · intro o
    have := World.block_lt_of_cell? _ _ c28
    refine (World.frozen?_of_block (ht.block bd this hbd)).trans ?_
    rw [World.frozen?_setCell, World.frozen?_setCell]
  · refine ht.heap ?_ (fun e => (hl.old _ e).2.2 rfl)
    rw [Below.heap_setCell _ _ _ _ (by simp; omega), Below.heap_setCell _ _ _ _ (by simp; omega)]
    exact hlog
  · rcases hat with e | e
    · exact .inl e
    · right; omega

set_option maxRecDepth 100000 in
set_option maxHeartbeats 1000000 in
theorem walk_any (m bv b0 N bd bl bs bc st : Nat) (par : Nat → List Nat) (pv : Nat → Value) (wk stop : Int) (mk0 : Nat → Int) (x0 : Option Addr) (c0 : Nat) (w0 : World) (hm : m ≤ 64) (hc0 : c0 ≤ maxLen)
    (hl : Lay w0 m b0 N bd bl (.slice x0 0 c0)) (hg : Graph w0 m bv b0 N par pv mk0) (hst : st < m) (hwk : w0.cell? ⟨bd, 27, none⟩ = some (.int .u64 (wk - 1))) (hwf : w0.frozen? ⟨bd, 27, none⟩ = false)
    (hw1 : 1 ≤ wk) (hw2 : wk ≤ 1000) (hmk : ∀ i, 0 ≤ mk0 i ∧ mk0 i < wk) (hpl : ∀ i, i < m → (par i).length ≤ 2000)
    (hsv : w0.cell? ⟨bd, 28, none⟩ = some (.slice x0 0 c0)) (hf : w0.frozen? ⟨bd, 28, none⟩ = false) (hown0 : w0.ownsRow (bd + 2) 26 1 (.slice x0 0 c0) 0 [])
    (hlog : w0.heap[bl]? = some (.cells #[.slice none 0 0] 84 (0, 0))) (h0 : 0 ≤ stop) (h1 : stop ≤ 18446744073709551615)
    (hs : w0.cell? ⟨bs, 0, none⟩ = some (.int .u64 stop)) (hbs : bs < bv) 
    (hc : w0.cell? ⟨bc, 0, none⟩ = some (.func (.func 6) #[] #[.pointer (some ⟨bs, 0, none⟩)])) (hbc : bc = bd + 1) :
    Calls Yba.prog 7 #[.pointer (some ⟨bd, 0, none⟩), .pointer (some ⟨b0 + st, 0, none⟩), .func (.func 8) #[] #[.pointer (some ⟨bl, 0, none⟩), .pointer (some ⟨bc, 0, none⟩)]] w0 fun e w' => e = .returned (.tuple #[]) ∧
      ∃ log lv g cap, WDone m st (contB stop) par log ∧ WEnd w0 w' m bv b0 N bd bl par pv wk mk0 (.slice x0 0 c0) log lv g cap := by
  obtain ⟨i0, hi0, hz0, hz1, hz2⟩ := info_parts info26
  unfold maxLen at hc0
  have mkst := hg.mark st hst
  have frst := hg.free st hst
  have l1 := hl.dag; have l2 := hl.log1; have l3 := hl.log2; have l4 := hl.top
  have n1 : b0 + st ≠ bd := by omega
  have e1 : (wk - 1 + 1 : Int) = wk := by omega
  have hsz := hg.size (by omega)
  have H1 : Hid ((((w0.setCell ⟨bd, 27, none⟩ (.int .u64 wk)).setCell ⟨b0 + st, 21, none⟩ (.int .u64 wk)).alloc (.cells #[.pointer (some ⟨b0 + st, 0, none⟩)] 26)).ownsRow (bd + 2) 26 1 (.slice x0 0 c0) 0 []) :=
    (ownsRow_setCell_below (ownsRow_setCell_below hown0 (by simp) _) (by simp; omega) _).alloc _
  have H2 : Hid (∀ j u, [vptr b0 st][j]? = some u → (((w0.setCell ⟨bd, 27, none⟩ (.int .u64 wk)).setCell ⟨b0 + st, 21, none⟩ (.int .u64 wk)).alloc (.cells #[.pointer (some ⟨b0 + st, 0, none⟩)] 26)).cell? ((⟨w0.heap.size, 0, none⟩ : Addr).add j) = some u) := by
    have := news_plain ((w0.setCell ⟨bd, 27, none⟩ (.int .u64 wk)).setCell ⟨b0 + st, 21, none⟩ (.int .u64 wk)) (vptr b0 st) 26
    have e : ((w0.setCell ⟨bd, 27, none⟩ (.int .u64 wk)).setCell ⟨b0 + st, 21, none⟩ (.int .u64 wk)).heap.size = w0.heap.size := by simp
    rw [e] at this
    exact this
  have H3 : Hid (∀ u ∈ [vptr b0 st], u.oneCell' = true) := one_cell _ rfl
  have H4 : Hid (∀ g cap w1, w1.ownsRow (bd + 2) 26 1 (.slice (some ⟨g, 0, none⟩) (0 + 1) cap) (0 + 1) ([] ++ [vptr b0 st]) → (((w0.setCell ⟨bd, 27, none⟩ (.int .u64 wk)).setCell ⟨b0 + st, 21, none⟩ (.int .u64 wk)).alloc (.cells #[.pointer (some ⟨b0 + st, 0, none⟩)] 26)).grownBy w1 (Value.slice x0 0 c0).ownBlock →
      ((Value.slice x0 0 c0).ownBlock = some g ∨ g = w0.heap.size + 1) → WS w0 w1 m bv b0 N bd bl par pv wk mk0 (.slice x0 0 c0) [st] [] [st] (.slice none 0 0) g cap) := fun g cap w1 a b c => WS.first hl hg hst hwk hsv hlog a b c
  have H5 : Hid (w0.cell? ⟨bs, 0, none⟩ = some (.int .u64 stop)) := hs
  have H6 : Hid (w0.cell? ⟨bc, 0, none⟩ = some (.func (.func 6) #[] #[.pointer (some ⟨bs, 0, none⟩)])) := hc
  have H7 : Hid (Graph w0 m bv b0 N par pv mk0) := hg
  have H8 : Hid (bc = bd + 1) := hbc
  clear hs hc hg hown0 hlog hbc
  have hhi := hl.log2
  go_enter Yba.func7, Yba.ntmps7
  go_wp2_with (at_builtin; refine wpList_append_lies _ (by rfl) _ _ 25 (by rfl) (bd + 2) 26 i0 (.pointer none) 1 8 Yba.underlying25 hi0 hz0 hz1 hz2 rfl (by decide) (.slice x0 0 c0) 0 [] (by rfl) H1.out ⟨w0.heap.size, 0, none⟩ 1 1 [vptr b0 st] (by rfl) rfl H2.out H3.out (by omega) (by unfold maxLen; omega) (by omega) (by simp; omega) (w0.heap.size + 1) (by simp) ?_; intro g cap w1 hown1 hgrow hat hlt)
  have hW := H4.out g cap w1 hown1 hgrow hat
  clear hown1 hgrow hat hlt H1 H2 H3 H4 mkst frst hwk hwf hsv e1
  have HF : Hid (w0.frozen? ⟨bd, 28, none⟩ = false) := hf
  go_loopg [6] m (fun k s wr => ∃ log stk lv g cap, k + log.length = m ∧ s = .slice (some ⟨g, 0, none⟩) stk.length cap ∧ WInv m st (contB stop) par log stk ∧ WS w0 wr m bv b0 N bd bl par pv wk mk0 (.slice x0 0 c0) (log ++ stk) log stk lv g cap)
  case atStart => exact ⟨[], [st], _, g, cap, by simp, rfl, WInv.start m st _ par hst, hW⟩
  case round =>
    obtain ⟨log, stk, lv, g, cap, hk, rfl, hI, hS⟩ := hrel
    clear hW
    have hsize := hI.size
    have hgs := hS.touch.size
    have hcapm := hS.room.2
    unfold maxLen at hcapm
    rcases List.eq_nil_or_concat stk with rfl | ⟨stk, u, rfl⟩
    · -- the stack is empty
      go_wp2_with fail
      refine (keep_said bd g cap (bd + 2) _ (by exact hS.own) hS.room.1 hS.room.2 (by omega) _ hS.stack ((hS.free 28).trans HF.out)).mono ?_
      rintro e w2 ⟨rfl, hK⟩
      go_wp2
      go_end0
      exact ⟨rfl, log, lv, g, cap, hI.fin, hS.kept hl hK (by simp)⟩
    · rw [List.concat_eq_append] at hI hS hsize
      have hlen : (stk.concat u).length = stk.length + 1 := by simp
      rw [hlen]
      have hum : u < m := hI.lt u (by simp)
      have hE := hI.pop
      have hfit := hS.fits
      rw [List.length_append, List.length_singleton] at hfit
      obtain ⟨hP, hcell⟩ := hS.pop
      have hsz2 := hE.size
      unfold vptr at hcell
      have hT := hP.touch
      have hs' := hT.cell H5.out (by have := H7.out.lo; have := fun e => (hl.old bs e).1; rintro (e | e | e | e) <;> (try simp at e) <;> (try have := this e) <;> omega)
      have hc' := hT.cell H6.out (by have := H8.out; have := fun e => (hl.old bc e).1; rintro (e | e | e | e) <;> (try simp at e) <;> (try have := this e) <;> omega)
      have hq' := hP.gr.seq u hum
      have hpl' := hpl u hum
      have hlg := hP.lg
      have HC : Hid (bc < w0.heap.size ∧ bc ≠ bl ∧ bs ≠ bl ∧ bs < w0.heap.size) := by
        have := H8.out; have := H7.out.lo; exact ⟨by omega, by omega, by omega, by omega⟩
      clear hS hI hlen
      cases hcu : contB stop u
      · go_wp2_with fail
        refine (visit_any u (by omega) stop bs bc bl (b0 + u) w0.heap.size lv (logv log) _ h0 h1 hs' hc' hq' hlg (by rw [logv_len]; omega) l3 hgs HC.out.2.2.2 HC.out.1 (by omega) HC.out.2.2.1 HC.out.2.1 (by omega)).mono ?_
        rintro e w2 ⟨rfl, lv', hlog', ht'⟩
        have hV := hP.visited hl hlog' ht'
        clear hlog' ht' hs' hc' hq' hlg hcell hP hT
        have HV : Hid (WS w0 w2 m bv b0 N bd bl par pv wk mk0 (.slice x0 0 c0) (log ++ (stk ++ [u])) (log ++ [u]) stk lv' g cap) := hV
        clear hV
        go_wp2
        go_roundg (m - (log.length + 1))
        case measure => omega
        case rel => exact ⟨log ++ [u], stk, lv', g, cap, by simp; omega, rfl, hE.stop hcu, HV.out.setL (fun x => mem_pop.symm)⟩
      · go_wp2_with fail
        refine (visit_any u (by omega) stop bs bc bl (b0 + u) w0.heap.size lv (logv log) _ h0 h1 hs' hc' hq' hlg (by rw [logv_len]; omega) l3 hgs HC.out.2.2.2 HC.out.1 (by omega) HC.out.2.2.1 HC.out.2.1 (by omega)).mono ?_
        rintro e w2 ⟨rfl, lv', hlog', ht'⟩
        have hV := (hP.visited hl hlog' ht').setL (L' := log ++ [u] ++ stk) (fun x => mem_pop.symm)
        clear hlog' ht' hs' hc' hq' hlg hcell hP hT
        obtain ⟨ao, pc, hpv⟩ := hV.gr.shape hum
        have hpc := (hV.gr.pars u hum).1
        rw [hpv] at hpc
        have HP : Hid (pv u = .slice ao (par u).length pc) := hpv
        have HV : Hid (WS w0 w2 m bv b0 N bd bl par pv wk mk0 (.slice x0 0 c0) (log ++ [u] ++ stk) (log ++ [u]) stk lv' g cap) := hV
        have HU : Hid (contB stop u = true) := hcu
        clear hV hpv
        go_wp2
        clear hpc
        go_loopg [6, 55] (par u).length (fun k s c wr => ∃ (j : Nat) (stk : List Nat) (g cap : Nat), k + j = (par u).length ∧ s = .slice (some ⟨g, 0, none⟩) stk.length cap ∧ c = .int .i64 j ∧ EInv m st (contB stop) par log stk u j ∧ WS w0 wr m bv b0 N bd bl par pv wk mk0 (.slice x0 0 c0) (log ++ [u] ++ stk) (log ++ [u]) stk lv' g cap)
        case atStart => exact ⟨0, stk, g, cap, rfl, rfl, rfl, hE, HV.out⟩
        case round =>
          clear hE HV hsz2 hfit
          obtain ⟨j, stk, g, cap, hkj, rfl, rfl, hE, hS⟩ := hrel
          have hsz2 := hE.size
          have hgs2 := hS.touch.size
          by_cases hj : j < (par u).length
          · obtain ⟨p, hp⟩ : ∃ p, p = (par u)[j] := ⟨_, rfl⟩
            obtain ⟨q, hq, hcell⟩ := hS.gr.parent hum HP.out j hj
            rw [← hp] at hcell
            unfold vptr at hcell
            have hpm : p < m := by rw [hp]; exact hS.gr.lt u hum _ (List.getElem_mem hj)
            have hmark := hS.gr.mark p hpm
            have hfree := hS.gr.free p hpm
            have hwalks := hS.walks
            have HQ : Hid (p = (par u)[j]) := hp
            have HS : Hid (WS w0 wr m bv b0 N bd bl par pv wk mk0 (.slice x0 0 c0) (log ++ [u] ++ stk) (log ++ [u]) stk lv' g cap) := hS
            clear hp hS
            subst hq
            by_cases hin : p ∈ log ++ [u] ++ stk
            · rw [mkOf_in hin] at hmark
              go_wp2
              go_quiet (fail)
              go_wp2
              go_roundg ((par u).length - (j + 1))
              case measure => omega
              case rel => exact ⟨j + 1, stk, g, cap, by omega, rfl, by go_num, hE.skip hj (by rw [← HQ.out]; exact hin), HS.out.drewN _⟩
            · rw [mkOf_out hin] at hmark
              have hmp := hmk p
              have hne : (mk0 p != wk) = true := by rw [bne_iff_ne]; omega
              go_wp2
              go_quiet (fail)
              have hS3 := HS.out.drewN nq
              have hcell3 : (wr.drewN nq).cell? ⟨q, j, none⟩ = some (.pointer (some ⟨b0 + p, 0, none⟩)) := hcell
              have hmark3 : (wr.drewN nq).cell? ⟨b0 + p, 21, none⟩ = some (.int .u64 (mk0 p)) := hmark
              have hfree3 : (wr.drewN nq).frozen? ⟨b0 + p, 21, none⟩ = false := hfree
              have hwalks3 : (wr.drewN nq).cell? ⟨bd, 27, none⟩ = some (.int .u64 wk) := hwalks
              clear hcell hmark hfree hwalks HS hgs2
              generalize wr.drewN nq = w3 at *
              have hM := hS3.marked hl hpm
              have hgs3 := hS3.touch.size
              have H1 : Hid (((w3.setCell ⟨b0 + p, 21, none⟩ (.int .u64 wk)).alloc (.cells #[.pointer (some ⟨b0 + p, 0, none⟩)] 26)).ownsRow (bd + 2) 26 1 (.slice (some ⟨g, 0, none⟩) stk.length cap) stk.length (vptrs b0 stk)) := hM.own.alloc _
              have H2 : Hid (∀ t v, [vptr b0 p][t]? = some v → ((w3.setCell ⟨b0 + p, 21, none⟩ (.int .u64 wk)).alloc (.cells #[.pointer (some ⟨b0 + p, 0, none⟩)] 26)).cell? ((⟨w3.heap.size, 0, none⟩ : Addr).add t) = some v) := by
                have := news_plain (w3.setCell ⟨b0 + p, 21, none⟩ (.int .u64 wk)) (vptr b0 p) 26
                have e : (w3.setCell ⟨b0 + p, 21, none⟩ (.int .u64 wk)).heap.size = w3.heap.size := by simp
                rw [e] at this
                exact this
              have H3 : Hid (∀ v ∈ [vptr b0 p], v.oneCell' = true) := one_cell _ rfl
              have HM : Hid (WS w0 (w3.setCell ⟨b0 + p, 21, none⟩ (.int .u64 wk)) m bv b0 N bd bl par pv wk mk0 (.slice x0 0 c0) (log ++ [u] ++ stk ++ [p]) (log ++ [u]) stk lv' g cap) := hM
              clear hM hS3
              go_wp2_with (at_builtin; refine wpList_append_lies _ (by rfl) _ _ 25 (by rfl) (bd + 2) 26 i0 (.pointer none) 1 8 Yba.underlying25 hi0 hz0 hz1 hz2 rfl (by decide) (.slice (some ⟨g, 0, none⟩) stk.length cap) stk.length (vptrs b0 stk) (by rfl) H1.out ⟨w3.heap.size, 0, none⟩ 1 1 [vptr b0 p] (by rfl) rfl H2.out H3.out (by omega) (by unfold maxLen; omega) (by omega) (by simp; omega) (w3.heap.size + 1) (by simp) ?_; intro g' cap' w4 hown1 hgrow hat hlt)
              have hN := HM.out.pushed hl hown1 hgrow (by simpa [Value.ownBlock] using hat)
              clear hown1 hgrow hat hlt H1 H2 H3 HM hcell3 hmark3 hfree3 hwalks3
              go_roundg ((par u).length - (j + 1))
              case measure => omega
              case rel => exact ⟨j + 1, stk ++ [p], g', cap', by omega, by simp, by go_num, by have := hE.push hj (by rw [← HQ.out]; exact hin) (by rw [← HQ.out]; exact hpm) HU.out; rw [← HQ.out] at this; exact this, hN.setL (fun x => by simp)⟩
          · have hD := hE.done (by omega)
            have HS : Hid (WS w0 wr m bv b0 N bd bl par pv wk mk0 (.slice x0 0 c0) (log ++ [u] ++ stk) (log ++ [u]) stk lv' g cap) := hS
            clear hS
            go_wp2
            go_roundg (m - (log.length + 1))
            case measure => omega
            case rel => exact ⟨log ++ [u], stk, lv', g, cap, by simp; omega, rfl, hD, HS.out⟩
end Go.Proofs.Ybulkbngq

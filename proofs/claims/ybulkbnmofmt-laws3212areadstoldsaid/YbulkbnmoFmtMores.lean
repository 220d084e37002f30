/-
  '(*input).more' (14), whole.
-/
import Derived.Test.YbulkbnmoFmtMoreLoop
import Derived.Deep.LoopGhost
import Derived.Deep.QuietTactic
import Derived.BigQuiet
namespace Go.Proofs.YbulkbnmoFmt
open Go.RowKit
set_option linter.unusedVariables false

set_option maxRecDepth 100000 in
set_option maxHeartbeats 2000000 in
theorem more_some_act (bi br gd dc ch : Nat) (ds : List UInt8) (fv : Value) (t g cap : Nat) (w : World) (h : InAt w bi br gd dc ch ds fv t g cap .nilIface) (ht : t < ds.length) (h0 : 0 < t) (hbg : bi < g) :
    Calls Ybaf.prog 14 #[.pointer (some ⟨bi, 0, none⟩)] w fun e w' => e = .returned (.bool true) ∧ ∃ n g' cap', 1 ≤ n ∧ t + n ≤ ds.length ∧ InAt w' bi br gd dc ch ds fv (t + n) g' cap' .nilIface ∧ bi < g' ∧ Touch (fun k => br ≤ k) w w' := by
  have HI : Hid (InAt w bi br gd dc ch ds fv t g cap .nilIface) := h
  obtain ⟨hrd, h_r, hbuf, hpos, hoff, herr, hfree, hrow, hcaps, hord⟩ := h
  have hsm := hrd.small
  have hrm := hrd.room
  have f1 := hfree 1
  have e1 : ((t : Int) == (cap : Int)) = false := beq_eq_false_iff_ne.2 (by omega)
  have e2 : ((t : Int) == 0) = false := beq_eq_false_iff_ne.2 (by omega)
  clear hrow hfree
  go_enter Ybaf.func14, Ybaf.ntmps14
  go_wp2
  go_quiet (fail)
  go_wp2
  have HI2 : Hid (InAt (w.drewN nq) bi br gd dc ch ds fv t g cap .nilIface) := HI.out.touch ((Touch.refl (fun _ => False) w).drewN nq) (fun e => e) (fun e => e) (fun e => e) (fun e => e)
  have HT2 : Hid (Touch (fun k => br ≤ k) w (w.drewN nq)) := (Touch.refl _ w).drewN nq
  refine moreLoop_some bi br gd dc ch ds fv t g cap (min ch (ds.length - t)) _ (by exact HI2.out) ht (by exact hbg) rfl ?_
  intro v4 v102 v103 v104 v105 v106 v107 v108 v109 v110 v111 v112 v113 v114 v115 v116 v117 v118 v119 v120 v121 v122 v123 v124 v125 v126 v127 v128 v129 v130 v131 v132 v133 v134 v135 v136 v137 v138 v139 v140 v141 v142 v143 v144 v145 v146 v147 v148 v149 v150 v151 w2 hI2 ht2
  have HE : Hid (InAt w2 bi br gd dc ch ds fv (t + min ch (ds.length - t)) _ _ .nilIface ∧ Touch (fun k => br ≤ k) w w2) := ⟨hI2, HT2.out.trans ht2⟩
  clear hI2 ht2
  go_wp2
  go_ret
  exact ⟨rfl, _, _, _, by omega, by omega, HE.out.1, hbg, HE.out.2⟩

set_option maxRecDepth 100000 in
set_option maxHeartbeats 2000000 in
theorem more_some_fresh (bi br gd dc ch : Nat) (ds : List UInt8) (fv : Value) (g : Nat) (w : World) (h : InAt w bi br gd dc ch ds fv 0 g 16384 .nilIface) (ht : 0 < ds.length)  :
    Calls Ybaf.prog 14 #[.pointer (some ⟨bi, 0, none⟩)] w fun e w' => e = .returned (.bool true) ∧ ∃ n g' cap', 1 ≤ n ∧ 0 + n ≤ ds.length ∧ InAt w' bi br gd dc ch ds fv (0 + n) g' cap' .nilIface ∧ bi < g' ∧ Touch (fun k => br ≤ k) w w' := by
  have HI : Hid (InAt w bi br gd dc ch ds fv 0 g 16384 .nilIface) := h
  obtain ⟨hrd, h_r, hbuf, hpos, hoff, herr, hfree, hrow, hcaps, hord⟩ := h
  have hsm := hrd.small
  have hrm := hrd.room
  have f1 := hfree 1
  have mk := make32
  have hbw : bi < w.heap.size := World.block_lt_of_cell? w _ h_r
  clear hrow hfree
  go_enter Ybaf.func14, Ybaf.ntmps14
  go_wp2
  go_quiet (fail)
  have hI1 := HI.out.touch ((Touch.refl (fun _ => False) w).drewN nq) (fun e => e) (fun e => e) (fun e => e) (fun e => e)
  have HT1 : Hid (Touch (fun k => br ≤ k) w (w.drewN nq)) := (Touch.refl _ w).drewN nq
  clear h_r hbuf hpos hoff herr f1 hbw hrd
  generalize w.drewN nq = w1 at *
  have hF := in_fresh hI1
  have HI2 : Hid (InAt ((w1.setCell ⟨bi, 1, none⟩ (.slice (some ⟨w1.heap.size, 0, none⟩) 0 32768)).alloc (.cells zrow.toArray 5)) bi br gd dc ch ds fv 0 w1.heap.size 32768 .nilIface) := hF.1
  have hbg : bi < w1.heap.size := hF.2.1
  have HT2 : Hid (Touch (fun k => br ≤ k) w ((w1.setCell ⟨bi, 1, none⟩ (.slice (some ⟨w1.heap.size, 0, none⟩) 0 32768)).alloc (.cells zrow.toArray 5))) := HT1.out.trans hF.2.2
  have hbuf := hI1.buf
  have f1 := hI1.free 1
  clear hF hI1
  go_wp2
  refine moreLoop_some bi br gd dc ch ds fv 0 _ _ (min ch (ds.length - 0)) _ (by exact HI2.out) ht (by exact hbg) rfl ?_
  intro v4 v102 v103 v104 v105 v106 v107 v108 v109 v110 v111 v112 v113 v114 v115 v116 v117 v118 v119 v120 v121 v122 v123 v124 v125 v126 v127 v128 v129 v130 v131 v132 v133 v134 v135 v136 v137 v138 v139 v140 v141 v142 v143 v144 v145 v146 v147 v148 v149 v150 v151 w2 hI2 ht2
  have HE : Hid (InAt w2 bi br gd dc ch ds fv (0 + min ch (ds.length - 0)) _ _ .nilIface ∧ Touch (fun k => br ≤ k) w w2) := ⟨hI2, HT2.out.trans ht2⟩
  clear hI2 ht2
  go_wp2
  go_ret
  exact ⟨rfl, _, _, _, by omega, by omega, HE.out.1, hbg, HE.out.2⟩

set_option maxRecDepth 100000 in
set_option maxHeartbeats 2000000 in
theorem more_end_act (bi br gd dc ch : Nat) (ds : List UInt8) (ft : TypeId) (fp : Value) (t g cap : Nat) (w : World) (h : InAt w bi br gd dc ch ds (.iface ft fp) t g cap .nilIface) (ht : ds.length ≤ t) (h0 : 0 < t) (hbg : bi < g) :
    Calls Ybaf.prog 14 #[.pointer (some ⟨bi, 0, none⟩)] w fun e w' => e = .returned (.bool false) ∧ ∃ g' cap', InAt w' bi br gd dc ch ds (.iface ft fp) t g' cap' (.iface ft fp) ∧ Touch (fun k => br ≤ k) w w' := by
  have HI : Hid (InAt w bi br gd dc ch ds (.iface ft fp) t g cap .nilIface) := h
  obtain ⟨hrd, h_r, hbuf, hpos, hoff, herr, hfree, hrow, hcaps, hord⟩ := h
  have hsm := hrd.small
  have hrm := hrd.room
  have f1 := hfree 1
  have e1 : ((t : Int) == (cap : Int)) = false := beq_eq_false_iff_ne.2 (by omega)
  have e2 : ((t : Int) == 0) = false := beq_eq_false_iff_ne.2 (by omega)
  clear hrow hfree
  go_enter Ybaf.func14, Ybaf.ntmps14
  go_wp2
  go_quiet (fail)
  go_wp2
  have HI2 : Hid (InAt (w.drewN nq) bi br gd dc ch ds (.iface ft fp) t g cap .nilIface) := HI.out.touch ((Touch.refl (fun _ => False) w).drewN nq) (fun e => e) (fun e => e) (fun e => e) (fun e => e)
  have HT2 : Hid (Touch (fun k => br ≤ k) w (w.drewN nq)) := (Touch.refl _ w).drewN nq
  refine moreLoop_end bi br gd dc ch ds ft fp t g cap _ (by exact HI2.out) ht (by exact hbg) ?_
  intro v4 v102 v103 v104 v105 v106 v107 v108 v109 v110 v111 v112 v113 v114 v115 v116 v117 v118 v119 v120 v121 v122 v123 v124 v125 v126 v127 v128 v129 v130 v131 v132 v133 v134 v135 v136 v137 v138 v139 v140 v141 v142 v143 v144 v145 v146 v147 v148 v149 v150 v151 w2 hI2 ht2
  have HE : Hid (InAt w2 bi br gd dc ch ds (.iface ft fp) t _ _ (.iface ft fp) ∧ Touch (fun k => br ≤ k) w w2) := ⟨hI2, HT2.out.trans ht2⟩
  clear hI2 ht2
  go_wp2
  go_ret
  exact ⟨rfl, _, _, HE.out.1, HE.out.2⟩

set_option maxRecDepth 100000 in
set_option maxHeartbeats 2000000 in
theorem more_end_fresh (bi br gd dc ch : Nat) (ds : List UInt8) (ft : TypeId) (fp : Value) (g : Nat) (w : World) (h : InAt w bi br gd dc ch ds (.iface ft fp) 0 g 16384 .nilIface) (ht : ds.length ≤ 0)  :
    Calls Ybaf.prog 14 #[.pointer (some ⟨bi, 0, none⟩)] w fun e w' => e = .returned (.bool false) ∧ ∃ g' cap', InAt w' bi br gd dc ch ds (.iface ft fp) 0 g' cap' (.iface ft fp) ∧ Touch (fun k => br ≤ k) w w' := by
  have HI : Hid (InAt w bi br gd dc ch ds (.iface ft fp) 0 g 16384 .nilIface) := h
  obtain ⟨hrd, h_r, hbuf, hpos, hoff, herr, hfree, hrow, hcaps, hord⟩ := h
  have hsm := hrd.small
  have hrm := hrd.room
  have f1 := hfree 1
  have mk := make32
  have hbw : bi < w.heap.size := World.block_lt_of_cell? w _ h_r
  clear hrow hfree
  go_enter Ybaf.func14, Ybaf.ntmps14
  go_wp2
  go_quiet (fail)
  have hI1 := HI.out.touch ((Touch.refl (fun _ => False) w).drewN nq) (fun e => e) (fun e => e) (fun e => e) (fun e => e)
  have HT1 : Hid (Touch (fun k => br ≤ k) w (w.drewN nq)) := (Touch.refl _ w).drewN nq
  clear h_r hbuf hpos hoff herr f1 hbw hrd
  generalize w.drewN nq = w1 at *
  have hF := in_fresh hI1
  have HI2 : Hid (InAt ((w1.setCell ⟨bi, 1, none⟩ (.slice (some ⟨w1.heap.size, 0, none⟩) 0 32768)).alloc (.cells zrow.toArray 5)) bi br gd dc ch ds (.iface ft fp) 0 w1.heap.size 32768 .nilIface) := hF.1
  have hbg : bi < w1.heap.size := hF.2.1
  have HT2 : Hid (Touch (fun k => br ≤ k) w ((w1.setCell ⟨bi, 1, none⟩ (.slice (some ⟨w1.heap.size, 0, none⟩) 0 32768)).alloc (.cells zrow.toArray 5))) := HT1.out.trans hF.2.2
  have hbuf := hI1.buf
  have f1 := hI1.free 1
  clear hF hI1
  go_wp2
  refine moreLoop_end bi br gd dc ch ds ft fp 0 _ _ _ (by exact HI2.out) ht (by exact hbg) ?_
  intro v4 v102 v103 v104 v105 v106 v107 v108 v109 v110 v111 v112 v113 v114 v115 v116 v117 v118 v119 v120 v121 v122 v123 v124 v125 v126 v127 v128 v129 v130 v131 v132 v133 v134 v135 v136 v137 v138 v139 v140 v141 v142 v143 v144 v145 v146 v147 v148 v149 v150 v151 w2 hI2 ht2
  have HE : Hid (InAt w2 bi br gd dc ch ds (.iface ft fp) 0 _ _ (.iface ft fp) ∧ Touch (fun k => br ≤ k) w w2) := ⟨hI2, HT2.out.trans ht2⟩
  clear hI2 ht2
  go_wp2
  go_ret
  exact ⟨rfl, _, _, HE.out.1, HE.out.2⟩

theorem more_some (bi br gd dc ch : Nat) (ds : List UInt8) (fv : Value) (t g cap : Nat) (w : World) (h : InAt w bi br gd dc ch ds fv t g cap .nilIface) (hr : Rdy bi t g cap) (ht : t < ds.length) :
    Calls Ybaf.prog 14 #[.pointer (some ⟨bi, 0, none⟩)] w fun e w' => e = .returned (.bool true) ∧ ∃ t' g' cap', t < t' ∧ InAt w' bi br gd dc ch ds fv t' g' cap' .nilIface ∧ Rdy bi t' g' cap' ∧ Touch (fun k => br ≤ k) w w' := by
  rcases hr with ⟨rfl, rfl⟩ | ⟨h0, hbg⟩
  · refine (more_some_fresh bi br gd dc ch ds fv g w h ht).mono ?_
    rintro e w' ⟨rfl, n, g', cap', h1, h2, h3, h4, h5⟩
    exact ⟨rfl, _, _, _, by omega, h3, .inr ⟨by omega, h4⟩, h5⟩
  · refine (more_some_act bi br gd dc ch ds fv t g cap w h ht h0 hbg).mono ?_
    rintro e w' ⟨rfl, n, g', cap', h1, h2, h3, h4, h5⟩
    exact ⟨rfl, _, _, _, by omega, h3, .inr ⟨by omega, h4⟩, h5⟩

theorem more_end (bi br gd dc ch : Nat) (ds : List UInt8) (ft : TypeId) (fp : Value) (t g cap : Nat) (w : World) (h : InAt w bi br gd dc ch ds (.iface ft fp) t g cap .nilIface) (hr : Rdy bi t g cap) (ht : ds.length ≤ t) :
    Calls Ybaf.prog 14 #[.pointer (some ⟨bi, 0, none⟩)] w fun e w' => e = .returned (.bool false) ∧ ∃ g' cap', InAt w' bi br gd dc ch ds (.iface ft fp) t g' cap' (.iface ft fp) ∧ Touch (fun k => br ≤ k) w w' := by
  rcases hr with ⟨rfl, rfl⟩ | ⟨h0, hbg⟩
  · exact more_end_fresh bi br gd dc ch ds ft fp g w h ht
  · exact more_end_act bi br gd dc ch ds ft fp t g cap w h ht h0 hbg

theorem InAt.drewN {w : World} {bi br gd dc ch : Nat} {ds : List UInt8} {fv ev : Value} {t g cap : Nat} (h : InAt w bi br gd dc ch ds fv t g cap ev) (n : Nat) : InAt (w.drewN n) bi br gd dc ch ds fv t g cap ev :=
  h.touch ((Touch.refl (fun _ => False) w).drewN n) (fun e => e) (fun e => e) (fun e => e) (fun e => e)

set_option maxRecDepth 100000 in
set_option maxHeartbeats 2000000 in
theorem ensure_yes (bi br gd dc ch : Nat) (ds : List UInt8) (fv : Value) (t g cap k : Nat) (w : World) (h : InAt w bi br gd dc ch ds fv t g cap .nilIface) (hr : Rdy bi t g cap) (hk : k ≤ ds.length) (hk2 : k ≤ 5000) :
    Calls Ybaf.prog 9 #[.pointer (some ⟨bi, 0, none⟩), .int .i64 (k : Int)] w fun e w' => e = .returned (.bool true) ∧ ∃ t' g' cap', k ≤ t' ∧ InAt w' bi br gd dc ch ds fv t' g' cap' .nilIface ∧ Rdy bi t' g' cap' ∧ Touch (fun k => br ≤ k) w w' := by
  have hsm0 := h.rd.small
  have H : Hid (InAt w bi br gd dc ch ds fv t g cap .nilIface) := h
  have HR : Hid (Rdy bi t g cap) := hr
  clear h hr
  go_enter Ybaf.func9, Ybaf.ntmps9
  go_wp2
  go_loopg [] (ds.length - t) (fun m wr => ∃ t g cap, m + t = ds.length ∧ InAt wr bi br gd dc ch ds fv t g cap .nilIface ∧ Rdy bi t g cap ∧ Touch (fun k => br ≤ k) w wr)
  case atStart => exact ⟨t, g, cap, by omega, H.out, HR.out, Touch.refl _ _⟩
  case round =>
    clear hsm0 H HR
    obtain ⟨t, g, cap, hmt, hI, hR, hT⟩ := hrel
    have hsm := hI.rd.small
    have hrm := hI.rd.room
    have c1 := hI.pos
    have c2 := hI.buf
    by_cases hlt : t < k
    · have e1 : decide ((t : Int) < (k : Int)) = true := by simp; omega
      go_wp2
      go_quiet (fail)
      have HI : Hid (InAt (wr.drewN nq) bi br gd dc ch ds fv t g cap .nilIface) := hI.drewN nq
      have HT : Hid (Touch (fun k => br ≤ k) w (wr.drewN nq)) := hT.drewN nq
      clear c1 c2 hI hT
      go_wp2_with fail
      refine (more_some bi br gd dc ch ds fv t g cap _ (by exact HI.out) hR (by omega)).mono ?_
      rintro e w2 ⟨rfl, t', g', cap', q1, q2, q3, q4⟩
      have HE : Hid (InAt w2 bi br gd dc ch ds fv t' g' cap' .nilIface ∧ Rdy bi t' g' cap' ∧ Touch (fun k => br ≤ k) w w2) := ⟨q2, q3, HT.out.trans q4⟩
      have hle := q2.rd.small
      clear q2 q3 q4
      go_wp2
      go_roundg (ds.length - t')
      case measure => omega
      case rel => exact ⟨t', g', cap', by omega, HE.out.1, HE.out.2.1, HE.out.2.2⟩
    · have e1 : decide ((t : Int) < (k : Int)) = false := by simp; omega
      go_wp2
      go_quiet (fail)
      have HE : Hid (InAt (wr.drewN nq) bi br gd dc ch ds fv t g cap .nilIface ∧ Touch (fun k => br ≤ k) w (wr.drewN nq)) := ⟨hI.drewN nq, hT.drewN nq⟩
      clear hI hT c1 c2
      go_wp2
      go_ret
      exact ⟨rfl, t, g, cap, by omega, HE.out.1, hR, HE.out.2⟩

set_option maxRecDepth 100000 in
set_option maxHeartbeats 2000000 in
theorem ensure_no (bi br gd dc ch : Nat) (ds : List UInt8) (ft : TypeId) (fp : Value) (t g cap k : Nat) (w : World) (h : InAt w bi br gd dc ch ds (.iface ft fp) t g cap .nilIface) (hr : Rdy bi t g cap) (hk : ds.length < k) (hk2 : k ≤ 5000) :
    Calls Ybaf.prog 9 #[.pointer (some ⟨bi, 0, none⟩), .int .i64 (k : Int)] w fun e w' => e = .returned (.bool false) ∧ ∃ g' cap', InAt w' bi br gd dc ch ds (.iface ft fp) ds.length g' cap' (.iface ft fp) ∧ Touch (fun k => br ≤ k) w w' := by
  have hsm0 := h.rd.small
  have H : Hid (InAt w bi br gd dc ch ds (.iface ft fp) t g cap .nilIface) := h
  have HR : Hid (Rdy bi t g cap) := hr
  clear h hr
  go_enter Ybaf.func9, Ybaf.ntmps9
  go_wp2
  go_loopg [] (ds.length - t) (fun m wr => ∃ t g cap, m + t = ds.length ∧ InAt wr bi br gd dc ch ds (.iface ft fp) t g cap .nilIface ∧ Rdy bi t g cap ∧ Touch (fun k => br ≤ k) w wr)
  case atStart => exact ⟨t, g, cap, by omega, H.out, HR.out, Touch.refl _ _⟩
  case round =>
    clear hsm0 H HR
    obtain ⟨t, g, cap, hmt, hI, hR, hT⟩ := hrel
    have hsm := hI.rd.small
    have hrm := hI.rd.room
    have c1 := hI.pos
    have c2 := hI.buf
    have e1 : decide ((t : Int) < (k : Int)) = true := by simp; omega
    by_cases hlt : t < ds.length
    · go_wp2
      go_quiet (fail)
      have HI : Hid (InAt (wr.drewN nq) bi br gd dc ch ds (.iface ft fp) t g cap .nilIface) := hI.drewN nq
      have HT : Hid (Touch (fun k => br ≤ k) w (wr.drewN nq)) := hT.drewN nq
      clear c1 c2 hI hT
      go_wp2_with fail
      refine (more_some bi br gd dc ch ds (.iface ft fp) t g cap _ (by exact HI.out) hR hlt).mono ?_
      rintro e w2 ⟨rfl, t', g', cap', q1, q2, q3, q4⟩
      have HE : Hid (InAt w2 bi br gd dc ch ds (.iface ft fp) t' g' cap' .nilIface ∧ Rdy bi t' g' cap' ∧ Touch (fun k => br ≤ k) w w2) := ⟨q2, q3, HT.out.trans q4⟩
      have hle := q2.rd.small
      clear q2 q3 q4
      go_wp2
      go_roundg (ds.length - t')
      case measure => omega
      case rel => exact ⟨t', g', cap', by omega, HE.out.1, HE.out.2.1, HE.out.2.2⟩
    · go_wp2
      go_quiet (fail)
      have HI : Hid (InAt (wr.drewN nq) bi br gd dc ch ds (.iface ft fp) t g cap .nilIface) := hI.drewN nq
      have HT : Hid (Touch (fun k => br ≤ k) w (wr.drewN nq)) := hT.drewN nq
      clear c1 c2 hI hT
      go_wp2_with fail
      refine (more_end bi br gd dc ch ds ft fp t g cap _ (by exact HI.out) hR (by omega)).mono ?_
      rintro e w2 ⟨rfl, g', cap', q2, q4⟩
      have HE : Hid (InAt w2 bi br gd dc ch ds (.iface ft fp) t g' cap' (.iface ft fp) ∧ Touch (fun k => br ≤ k) w w2) := ⟨q2, HT.out.trans q4⟩
      clear q2 q4
      obtain rfl : t = ds.length := by omega
      go_wp2
      go_ret
      exact ⟨rfl, g', cap', HE.out.1, HE.out.2⟩

end Go.Proofs.YbulkbnmoFmt

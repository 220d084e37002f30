/-
  The loop of '(*input).more' (14). (The frame written out by program.)
-/
import Derived.Test.YbulkbnmoFmtMoreR
namespace Go.Proofs.YbulkbnmoFmt
open Go.RowKit
set_option linter.unusedVariables false

set_option maxRecDepth 100000 in
set_option maxHeartbeats 4000000 in
theorem moreLoop_some {u1 u2 u3 u4 u5 u6 u7 u8 u9 u10 u11 u12 u13 u14 u15 u16 u17 u18 u19 u20 u21 u22 u23 u24 u25 u26 u27 u28 u29 u30 u31 u32 u33 u34 u35 u36 u37 u38 u39 u40 u41 u42 u43 u44 u45 u46 u47 u48 u49 u50 u51 u52 u53 u54 u55 u56 u57 u58 u59 u60 u61 u62 u63 u64 u65 u66 u67 u68 u69 u70 u71 u72 u73 u74 u75 u76 u77 u78 u79 u80 u81 u82 u83 u84 u85 u86 u87 u88 u89 u90 u91 u92 u93 u94 u95 u96 u97 u98 u99 u100 u101 u102 u103 u104 u105 u106 u107 u108 u109 u110 u111 u112 u113 u114 u115 u116 u117 u118 u119 u120 u121 u122 u123 u124 u125 u126 u127 u128 u129 u130 u131 u132 u133 u134 u135 u136 u137 u138 u139 u140 u141 u142 u143 u144 u145 u146 u147 u148 u149 u150 u151 : Value} {Q : Exit → Act → World → Prop} (bi br gd dc ch : Nat) (ds : List UInt8) (fv : Value) (t g cap n : Nat) (w : World) (h : InAt w bi br gd dc ch ds fv t g cap .nilIface) (ht : t < ds.length) (hbg : bi < g) (hn : n = min ch (ds.length - t))
    (hQ : Hid (∀ (v4 v102 v103 v104 v105 v106 v107 v108 v109 v110 v111 v112 v113 v114 v115 v116 v117 v118 v119 v120 v121 v122 v123 v124 v125 v126 v127 v128 v129 v130 v131 v132 v133 v134 v135 v136 v137 v138 v139 v140 v141 v142 v143 v144 v145 v146 v147 v148 v149 v150 v151 : Value) (w' : World), InAt w' bi br gd dc ch ds fv (t + n) g cap .nilIface → Touch (fun k => br ≤ k) w w' → Q .ret ⟨List.toArray (.pointer (some ⟨bi, 0, none⟩) :: u1 :: .bool true :: u3 :: v4 :: u5 :: u6 :: u7 :: u8 :: u9 :: u10 :: u11 :: u12 :: u13 :: u14 :: u15 :: u16 :: u17 :: u18 :: u19 :: u20 :: u21 :: u22 :: u23 :: u24 :: u25 :: u26 :: u27 :: u28 :: u29 :: u30 :: u31 :: u32 :: u33 :: u34 :: u35 :: u36 :: u37 :: u38 :: u39 :: u40 :: u41 :: u42 :: u43 :: u44 :: u45 :: u46 :: u47 :: u48 :: u49 :: u50 :: u51 :: u52 :: u53 :: u54 :: u55 :: u56 :: u57 :: u58 :: u59 :: u60 :: u61 :: u62 :: u63 :: u64 :: u65 :: u66 :: u67 :: u68 :: u69 :: u70 :: u71 :: u72 :: u73 :: u74 :: u75 :: u76 :: u77 :: u78 :: u79 :: u80 :: u81 :: u82 :: u83 :: u84 :: u85 :: u86 :: u87 :: u88 :: u89 :: u90 :: u91 :: u92 :: u93 :: u94 :: u95 :: u96 :: u97 :: u98 :: u99 :: u100 :: u101 :: v102 :: v103 :: v104 :: v105 :: v106 :: v107 :: v108 :: v109 :: v110 :: v111 :: v112 :: v113 :: v114 :: v115 :: v116 :: v117 :: v118 :: v119 :: v120 :: v121 :: v122 :: v123 :: v124 :: v125 :: v126 :: v127 :: v128 :: v129 :: v130 :: v131 :: v132 :: v133 :: v134 :: v135 :: v136 :: v137 :: v138 :: v139 :: v140 :: v141 :: v142 :: v143 :: v144 :: v145 :: v146 :: v147 :: v148 :: v149 :: v150 :: v151 :: []), []⟩ w')) :
    Code.wp Ybaf.prog (loopAt 0 (Ybaf.f14.body.getD .skip)) Q ⟨List.toArray (.pointer (some ⟨bi, 0, none⟩) :: u1 :: u2 :: u3 :: u4 :: u5 :: u6 :: u7 :: u8 :: u9 :: u10 :: u11 :: u12 :: u13 :: u14 :: u15 :: u16 :: u17 :: u18 :: u19 :: u20 :: u21 :: u22 :: u23 :: u24 :: u25 :: u26 :: u27 :: u28 :: u29 :: u30 :: u31 :: u32 :: u33 :: u34 :: u35 :: u36 :: u37 :: u38 :: u39 :: u40 :: u41 :: u42 :: u43 :: u44 :: u45 :: u46 :: u47 :: u48 :: u49 :: u50 :: u51 :: u52 :: u53 :: u54 :: u55 :: u56 :: u57 :: u58 :: u59 :: u60 :: u61 :: u62 :: u63 :: u64 :: u65 :: u66 :: u67 :: u68 :: u69 :: u70 :: u71 :: u72 :: u73 :: u74 :: u75 :: u76 :: u77 :: u78 :: u79 :: u80 :: u81 :: u82 :: u83 :: u84 :: u85 :: u86 :: u87 :: u88 :: u89 :: u90 :: u91 :: u92 :: u93 :: u94 :: u95 :: u96 :: u97 :: u98 :: u99 :: u100 :: u101 :: u102 :: u103 :: u104 :: u105 :: u106 :: u107 :: u108 :: u109 :: u110 :: u111 :: u112 :: u113 :: u114 :: u115 :: u116 :: u117 :: u118 :: u119 :: u120 :: u121 :: u122 :: u123 :: u124 :: u125 :: u126 :: u127 :: u128 :: u129 :: u130 :: u131 :: u132 :: u133 :: u134 :: u135 :: u136 :: u137 :: u138 :: u139 :: u140 :: u141 :: u142 :: u143 :: u144 :: u145 :: u146 :: u147 :: u148 :: u149 :: u150 :: u151 :: []), []⟩ w := by
  have HI : Hid (InAt w bi br gd dc ch ds fv t g cap .nilIface) := h
  have herr := h.err
  obtain ⟨cur, hg, hcl, hct⟩ := h.row
  have HC : Hid (w.heap[g]? = some (.cells cur.toArray 5 (0, 0)) ∧ cur.length = cap ∧ cur.take t = bytesV (ds.take t)) := ⟨hg, hcl, hct⟩
  have hsm := h.rd.small
  have hrm := h.rd.room
  have hcp := h.caps
  clear hg hcl hct h
  have n1 : 1 ≤ n := by omega
  have n2 : t + n ≤ ds.length := by omega
  have n3 : n ≤ 8 := by omega
  have HNN : Hid (n = min ch (ds.length - t)) := hn
  clear hn
  conv => arg 2; whnf
  refine wp_loop_rounds 2 ?_
  rw [rounds_succ]
  go_wp2
  refine reg13_some bi br gd dc ch ds fv t g cap n cur w HI.out.r HI.out.buf HI.out.err (HI.out.free 4) HI.out.rd HI.out.caps HI.out.ord hbg ht HNN.out HC.out.1 HC.out.2.1 ?_
  intro v107 v108 v109 v110 v111 v112 v113 v114 v115 v116 v117 v118 v119 v120 v121 v122 v123 v124 v125 v126 v127 v128 v129 v130 v131 v132 v133 v134 w2 hP
  have c5 : (w2.setCell ⟨bi, 4, none⟩ .nilIface).cell? ⟨bi, 1, none⟩ = some (.slice (some ⟨g, 0, none⟩) t cap) := (set_off (by omega)).trans (hP.touch.cell (w := w.drew) HI.out.buf (by have := HI.out.ord; rintro (e | e) <;> simp at e <;> omega))
  have f5 : (w2.setCell ⟨bi, 4, none⟩ .nilIface).frozen? ⟨bi, 1, none⟩ = false := by
    rw [World.frozen?_setCell]
    exact (World.frozen?_of_block (hP.touch.block bi (World.block_lt_of_cell? w _ HI.out.r) (by have := HI.out.ord; rintro (e | e) <;> omega))).trans (HI.out.free 1)
  have HFIN : Hid (InAt ((w2.setCell ⟨bi, 4, none⟩ .nilIface).setCell ⟨bi, 1, none⟩ (.slice (some ⟨g, 0, none⟩) (t + n) cap)).drew bi br gd dc ch ds fv (t + n) g cap .nilIface ∧ Touch (fun k => br ≤ k) w ((w2.setCell ⟨bi, 4, none⟩ .nilIface).setCell ⟨bi, 1, none⟩ (.slice (some ⟨g, 0, none⟩) (t + n) cap)).drew) := in_step HI.out hbg hP HC.out.2.1 HC.out.2.2 n2 n1
  have C5 : Hid ((w2.setCell ⟨bi, 4, none⟩ .nilIface).cell? ⟨bi, 1, none⟩ = some (.slice (some ⟨g, 0, none⟩) t cap) ∧ (w2.setCell ⟨bi, 4, none⟩ .nilIface).frozen? ⟨bi, 1, none⟩ = false) := ⟨c5, f5⟩
  clear hP c5 f5 HC herr
  go_wp2
  refine reg14 bi t g cap n (n : Int) _ rfl (by exact C5.out.1) (by exact C5.out.2) (by omega) hcp.2 ?_
  intro v135 v136 v137 v138 v139 v140 v141 v142 v143 v144 v145 v146 v147 v148 v149
  have b7 : (0 : Int) < (n : Int) := by omega
  go_wp2
  exact hQ.out _ _ _ _ _ _ _ _ _ _ _ _ _ _ _ _ _ _ _ _ _ _ _ _ _ _ _ _ _ _ _ _ _ _ _ _ _ _ _ _ _ _ _ _ _ _ _ _ _ _ _ _ HFIN.out.1 HFIN.out.2

set_option maxRecDepth 100000 in
set_option maxHeartbeats 4000000 in
theorem moreLoop_end {u1 u2 u3 u4 u5 u6 u7 u8 u9 u10 u11 u12 u13 u14 u15 u16 u17 u18 u19 u20 u21 u22 u23 u24 u25 u26 u27 u28 u29 u30 u31 u32 u33 u34 u35 u36 u37 u38 u39 u40 u41 u42 u43 u44 u45 u46 u47 u48 u49 u50 u51 u52 u53 u54 u55 u56 u57 u58 u59 u60 u61 u62 u63 u64 u65 u66 u67 u68 u69 u70 u71 u72 u73 u74 u75 u76 u77 u78 u79 u80 u81 u82 u83 u84 u85 u86 u87 u88 u89 u90 u91 u92 u93 u94 u95 u96 u97 u98 u99 u100 u101 u102 u103 u104 u105 u106 u107 u108 u109 u110 u111 u112 u113 u114 u115 u116 u117 u118 u119 u120 u121 u122 u123 u124 u125 u126 u127 u128 u129 u130 u131 u132 u133 u134 u135 u136 u137 u138 u139 u140 u141 u142 u143 u144 u145 u146 u147 u148 u149 u150 u151 : Value} {Q : Exit → Act → World → Prop} (bi br gd dc ch : Nat) (ds : List UInt8) (ft : TypeId) (fp : Value) (t g cap : Nat) (w : World) (h : InAt w bi br gd dc ch ds (.iface ft fp) t g cap .nilIface) (ht : ds.length ≤ t) (hbg : bi < g)
    (hQ : Hid (∀ (v4 v102 v103 v104 v105 v106 v107 v108 v109 v110 v111 v112 v113 v114 v115 v116 v117 v118 v119 v120 v121 v122 v123 v124 v125 v126 v127 v128 v129 v130 v131 v132 v133 v134 v135 v136 v137 v138 v139 v140 v141 v142 v143 v144 v145 v146 v147 v148 v149 v150 v151 : Value) (w' : World), InAt w' bi br gd dc ch ds (.iface ft fp) t g cap (.iface ft fp) → Touch (fun k => br ≤ k) w w' → Q (.exit 1) ⟨List.toArray (.pointer (some ⟨bi, 0, none⟩) :: u1 :: u2 :: u3 :: v4 :: u5 :: u6 :: u7 :: u8 :: u9 :: u10 :: u11 :: u12 :: u13 :: u14 :: u15 :: u16 :: u17 :: u18 :: u19 :: u20 :: u21 :: u22 :: u23 :: u24 :: u25 :: u26 :: u27 :: u28 :: u29 :: u30 :: u31 :: u32 :: u33 :: u34 :: u35 :: u36 :: u37 :: u38 :: u39 :: u40 :: u41 :: u42 :: u43 :: u44 :: u45 :: u46 :: u47 :: u48 :: u49 :: u50 :: u51 :: u52 :: u53 :: u54 :: u55 :: u56 :: u57 :: u58 :: u59 :: u60 :: u61 :: u62 :: u63 :: u64 :: u65 :: u66 :: u67 :: u68 :: u69 :: u70 :: u71 :: u72 :: u73 :: u74 :: u75 :: u76 :: u77 :: u78 :: u79 :: u80 :: u81 :: u82 :: u83 :: u84 :: u85 :: u86 :: u87 :: u88 :: u89 :: u90 :: u91 :: u92 :: u93 :: u94 :: u95 :: u96 :: u97 :: u98 :: u99 :: u100 :: u101 :: v102 :: v103 :: v104 :: v105 :: v106 :: v107 :: v108 :: v109 :: v110 :: v111 :: v112 :: v113 :: v114 :: v115 :: v116 :: v117 :: v118 :: v119 :: v120 :: v121 :: v122 :: v123 :: v124 :: v125 :: v126 :: v127 :: v128 :: v129 :: v130 :: v131 :: v132 :: v133 :: v134 :: v135 :: v136 :: v137 :: v138 :: v139 :: v140 :: v141 :: v142 :: v143 :: v144 :: v145 :: v146 :: v147 :: v148 :: v149 :: v150 :: v151 :: []), []⟩ w')) :
    Code.wp Ybaf.prog (loopAt 0 (Ybaf.f14.body.getD .skip)) Q ⟨List.toArray (.pointer (some ⟨bi, 0, none⟩) :: u1 :: u2 :: u3 :: u4 :: u5 :: u6 :: u7 :: u8 :: u9 :: u10 :: u11 :: u12 :: u13 :: u14 :: u15 :: u16 :: u17 :: u18 :: u19 :: u20 :: u21 :: u22 :: u23 :: u24 :: u25 :: u26 :: u27 :: u28 :: u29 :: u30 :: u31 :: u32 :: u33 :: u34 :: u35 :: u36 :: u37 :: u38 :: u39 :: u40 :: u41 :: u42 :: u43 :: u44 :: u45 :: u46 :: u47 :: u48 :: u49 :: u50 :: u51 :: u52 :: u53 :: u54 :: u55 :: u56 :: u57 :: u58 :: u59 :: u60 :: u61 :: u62 :: u63 :: u64 :: u65 :: u66 :: u67 :: u68 :: u69 :: u70 :: u71 :: u72 :: u73 :: u74 :: u75 :: u76 :: u77 :: u78 :: u79 :: u80 :: u81 :: u82 :: u83 :: u84 :: u85 :: u86 :: u87 :: u88 :: u89 :: u90 :: u91 :: u92 :: u93 :: u94 :: u95 :: u96 :: u97 :: u98 :: u99 :: u100 :: u101 :: u102 :: u103 :: u104 :: u105 :: u106 :: u107 :: u108 :: u109 :: u110 :: u111 :: u112 :: u113 :: u114 :: u115 :: u116 :: u117 :: u118 :: u119 :: u120 :: u121 :: u122 :: u123 :: u124 :: u125 :: u126 :: u127 :: u128 :: u129 :: u130 :: u131 :: u132 :: u133 :: u134 :: u135 :: u136 :: u137 :: u138 :: u139 :: u140 :: u141 :: u142 :: u143 :: u144 :: u145 :: u146 :: u147 :: u148 :: u149 :: u150 :: u151 :: []), []⟩ w := by
  have HI : Hid (InAt w bi br gd dc ch ds (.iface ft fp) t g cap .nilIface) := h
  have herr := h.err
  obtain ⟨cur, hg, hcl, hct⟩ := h.row
  have HC : Hid (w.heap[g]? = some (.cells cur.toArray 5 (0, 0)) ∧ cur.length = cap ∧ cur.take t = bytesV (ds.take t)) := ⟨hg, hcl, hct⟩
  have hsm := h.rd.small
  have hrm := h.rd.room
  have hcp := h.caps
  clear hg hcl hct h
  conv => arg 2; whnf
  refine wp_loop_rounds 2 ?_
  rw [rounds_succ]
  go_wp2
  refine reg13_end bi br gd dc ch ds ft fp t g cap w HI.out.r HI.out.buf HI.out.err (HI.out.free 4) HI.out.rd HI.out.caps HI.out.ord hbg ht  ?_
  intro v107 v108 v109 v110 v111 v112 v113 v114 v115 v116 v117 v118 v119 v120 v121 v122 v123 v124 v125 v126 v127 v128 v129 v130 v131 v132 v133 v134 w2 hP
  have c5 : (w2.setCell ⟨bi, 4, none⟩ (.iface ft fp)).cell? ⟨bi, 1, none⟩ = some (.slice (some ⟨g, 0, none⟩) t cap) := (set_off (by omega)).trans (hP.cell (w := w.drew) HI.out.buf (fun e => e))
  have f5 : (w2.setCell ⟨bi, 4, none⟩ (.iface ft fp)).frozen? ⟨bi, 1, none⟩ = false := by
    rw [World.frozen?_setCell]
    exact (World.frozen?_of_block (hP.block bi (World.block_lt_of_cell? w _ HI.out.r) (fun e => e))).trans (HI.out.free 1)
  have HFIN : Hid (InAt ((w2.setCell ⟨bi, 4, none⟩ (.iface ft fp)).setCell ⟨bi, 1, none⟩ (.slice (some ⟨g, 0, none⟩) t cap)).drew bi br gd dc ch ds (.iface ft fp) t g cap (.iface ft fp) ∧ Touch (fun k => br ≤ k) w ((w2.setCell ⟨bi, 4, none⟩ (.iface ft fp)).setCell ⟨bi, 1, none⟩ (.slice (some ⟨g, 0, none⟩) t cap)).drew) := in_fail HI.out hbg hP
  have C5 : Hid ((w2.setCell ⟨bi, 4, none⟩ (.iface ft fp)).cell? ⟨bi, 1, none⟩ = some (.slice (some ⟨g, 0, none⟩) t cap) ∧ (w2.setCell ⟨bi, 4, none⟩ (.iface ft fp)).frozen? ⟨bi, 1, none⟩ = false) := ⟨c5, f5⟩
  clear hP c5 f5 HC herr
  go_wp2
  refine reg14 bi t g cap 0 0 _ rfl (by exact C5.out.1) (by exact C5.out.2) (by omega) hcp.2 ?_
  intro v135 v136 v137 v138 v139 v140 v141 v142 v143 v144 v145 v146 v147 v148 v149
  have c6 : ((w2.setCell ⟨bi, 4, none⟩ (.iface ft fp)).setCell ⟨bi, 1, none⟩ (.slice (some ⟨g, 0, none⟩) t cap)).cell? ⟨bi, 4, none⟩ = some (.iface ft fp) := HFIN.out.1.err
  generalize hw6 : (w2.setCell ⟨bi, 4, none⟩ (.iface ft fp)).setCell ⟨bi, 1, none⟩ (.slice (some ⟨g, 0, none⟩) (t + 0) cap) = w6 at *
  clear hw6
  go_wp2
  rw [rounds_succ]
  go_wp2
  exact hQ.out _ _ _ _ _ _ _ _ _ _ _ _ _ _ _ _ _ _ _ _ _ _ _ _ _ _ _ _ _ _ _ _ _ _ _ _ _ _ _ _ _ _ _ _ _ _ _ _ _ _ _ _ HFIN.out.1 HFIN.out.2

end Go.Proofs.YbulkbnmoFmt

/-
  The regions of '(*input).more''s loop (14): 'n, in.err = in.r.Read(in.buf[len(in.buf):cap(in.buf)])' and 'in.buf = in.buf[:len(in.buf)+n]'. (The frames written out by program.)
-/
import Derived.Test.YbulkbnmoFmtMore
namespace Go.Proofs.YbulkbnmoFmt
open Go.RowKit
set_option linter.unusedVariables false
attribute [local go_sem] Go.wp_at_zero Go.wp_at_succ

def loopsOf : Code → List Code
  | .loop c => .loop c :: loopsOf c
  | .seq a b => loopsOf a ++ loopsOf b
  | .block _ c => loopsOf c
  | .scope c => loopsOf c
  | .cond _ a b => loopsOf a ++ loopsOf b
  | _ => []
def loopAt (k : Nat) (c : Code) : Code := (loopsOf c).getD k .skip
def regAt (i : Nat) : Code → List Code
  | .region id ops d => if id = i then [.region id ops d] else []
  | .loop c => regAt i c
  | .seq a b => regAt i a ++ regAt i b
  | .block _ c => regAt i c
  | .scope c => regAt i c
  | .cond _ a b => regAt i a ++ regAt i b
  | _ => []
def regOf (i : Nat) (c : Code) : Code := (regAt i c).headD .skip

set_option maxRecDepth 100000 in
set_option maxHeartbeats 4000000 in
theorem reg13_some {u1 u2 u3 u4 u5 u6 u7 u8 u9 u10 u11 u12 u13 u14 u15 u16 u17 u18 u19 u20 u21 u22 u23 u24 u25 u26 u27 u28 u29 u30 u31 u32 u33 u34 u35 u36 u37 u38 u39 u40 u41 u42 u43 u44 u45 u46 u47 u48 u49 u50 u51 u52 u53 u54 u55 u56 u57 u58 u59 u60 u61 u62 u63 u64 u65 u66 u67 u68 u69 u70 u71 u72 u73 u74 u75 u76 u77 u78 u79 u80 u81 u82 u83 u84 u85 u86 u87 u88 u89 u90 u91 u92 u93 u94 u95 u96 u97 u98 u99 u100 u101 u102 u103 u104 u105 u106 u107 u108 u109 u110 u111 u112 u113 u114 u115 u116 u117 u118 u119 u120 u121 u122 u123 u124 u125 u126 u127 u128 u129 u130 u131 u132 u133 u134 u135 u136 u137 u138 u139 u140 u141 u142 u143 u144 u145 u146 u147 u148 u149 u150 u151 : Value} {Q : Exit → Act → World → Prop} (bi br gd dc ch : Nat) (ds : List UInt8) (fv : Value) (t g cap n : Nat) (cur : List Value) (w : World) (h_r : w.cell? ⟨bi, 0, none⟩ = some (.iface 27 (.pointer (some ⟨br, 0, none⟩)))) (hbuf : w.cell? ⟨bi, 1, none⟩ = some (.slice (some ⟨g, 0, none⟩) t cap)) (herr : w.cell? ⟨bi, 4, none⟩ = some .nilIface) (f4 : w.frozen? ⟨bi, 4, none⟩ = false)
    (hrd : RdAt w br gd dc ch ds fv t) (hcaps : 16384 ≤ cap ∧ cap ≤ 32768) (hord : gd < br ∧ br < bi) (hbg : bi < g) (ht : t < ds.length) (hn : n = min ch (ds.length - t)) (hg : w.heap[g]? = some (.cells cur.toArray 5 (0, 0))) (hcl : cur.length = cap)
    (hQ : Hid (∀ (v107 v108 v109 v110 v111 v112 v113 v114 v115 v116 v117 v118 v119 v120 v121 v122 v123 v124 v125 v126 v127 v128 v129 v130 v131 v132 v133 v134 : Value) (w' : World), ReadPost w.drew w' br gd dc ch ds fv t n g t cur → Q .normal ⟨List.toArray (.pointer (some ⟨bi, 0, none⟩) :: u1 :: u2 :: u3 :: .int .i64 (n : Int) :: u5 :: u6 :: u7 :: u8 :: u9 :: u10 :: u11 :: u12 :: u13 :: u14 :: u15 :: u16 :: u17 :: u18 :: u19 :: u20 :: u21 :: u22 :: u23 :: u24 :: u25 :: u26 :: u27 :: u28 :: u29 :: u30 :: u31 :: u32 :: u33 :: u34 :: u35 :: u36 :: u37 :: u38 :: u39 :: u40 :: u41 :: u42 :: u43 :: u44 :: u45 :: u46 :: u47 :: u48 :: u49 :: u50 :: u51 :: u52 :: u53 :: u54 :: u55 :: u56 :: u57 :: u58 :: u59 :: u60 :: u61 :: u62 :: u63 :: u64 :: u65 :: u66 :: u67 :: u68 :: u69 :: u70 :: u71 :: u72 :: u73 :: u74 :: u75 :: u76 :: u77 :: u78 :: u79 :: u80 :: u81 :: u82 :: u83 :: u84 :: u85 :: u86 :: u87 :: u88 :: u89 :: u90 :: u91 :: u92 :: u93 :: u94 :: u95 :: u96 :: u97 :: u98 :: u99 :: u100 :: u101 :: u102 :: u103 :: u104 :: u105 :: u106 :: v107 :: v108 :: v109 :: v110 :: v111 :: v112 :: v113 :: v114 :: v115 :: v116 :: v117 :: v118 :: v119 :: v120 :: v121 :: v122 :: v123 :: v124 :: v125 :: v126 :: v127 :: v128 :: v129 :: v130 :: v131 :: v132 :: v133 :: v134 :: u135 :: u136 :: u137 :: u138 :: u139 :: u140 :: u141 :: u142 :: u143 :: u144 :: u145 :: u146 :: u147 :: u148 :: u149 :: u150 :: u151 :: []), []⟩ (w'.setCell ⟨bi, 4, none⟩ .nilIface))) :
    Code.wp Ybaf.prog (regOf 13 (Ybaf.f14.body.getD .skip)) Q ⟨List.toArray (.pointer (some ⟨bi, 0, none⟩) :: u1 :: u2 :: u3 :: u4 :: u5 :: u6 :: u7 :: u8 :: u9 :: u10 :: u11 :: u12 :: u13 :: u14 :: u15 :: u16 :: u17 :: u18 :: u19 :: u20 :: u21 :: u22 :: u23 :: u24 :: u25 :: u26 :: u27 :: u28 :: u29 :: u30 :: u31 :: u32 :: u33 :: u34 :: u35 :: u36 :: u37 :: u38 :: u39 :: u40 :: u41 :: u42 :: u43 :: u44 :: u45 :: u46 :: u47 :: u48 :: u49 :: u50 :: u51 :: u52 :: u53 :: u54 :: u55 :: u56 :: u57 :: u58 :: u59 :: u60 :: u61 :: u62 :: u63 :: u64 :: u65 :: u66 :: u67 :: u68 :: u69 :: u70 :: u71 :: u72 :: u73 :: u74 :: u75 :: u76 :: u77 :: u78 :: u79 :: u80 :: u81 :: u82 :: u83 :: u84 :: u85 :: u86 :: u87 :: u88 :: u89 :: u90 :: u91 :: u92 :: u93 :: u94 :: u95 :: u96 :: u97 :: u98 :: u99 :: u100 :: u101 :: u102 :: u103 :: u104 :: u105 :: u106 :: u107 :: u108 :: u109 :: u110 :: u111 :: u112 :: u113 :: u114 :: u115 :: u116 :: u117 :: u118 :: u119 :: u120 :: u121 :: u122 :: u123 :: u124 :: u125 :: u126 :: u127 :: u128 :: u129 :: u130 :: u131 :: u132 :: u133 :: u134 :: u135 :: u136 :: u137 :: u138 :: u139 :: u140 :: u141 :: u142 :: u143 :: u144 :: u145 :: u146 :: u147 :: u148 :: u149 :: u150 :: u151 :: []), []⟩ w := by
  have hsm := hrd.small
  have hrm := hrd.room
  have k1 := nil_ahead
  have k2 := method_read
  have HRD : Hid (RdAt w.drew br gd dc ch ds fv t) := hrd.drew
  have HN : Hid (¬ (bi = br ∨ g ≤ bi)) := by rintro (e | e) <;> omega
  have HF : Hid (∀ w', Touch (fun k => k = br ∨ g ≤ k) w.drew w' → ∀ o, w'.frozen? ⟨bi, o, none⟩ = w.frozen? ⟨bi, o, none⟩) := fun w' ht o => World.frozen?_of_block (ht.block bi (World.block_lt_of_cell? w _ h_r) HN.out)
  have HG : Hid (w.heap[g]? = some (.cells cur.toArray 5 (0, 0))) := hg
  have n1 : 1 ≤ n := by omega
  have n2 : t + n ≤ ds.length := by omega
  have n3 : n ≤ 8 := by omega
  have HNN : Hid (n = min ch (ds.length - t)) := hn
  clear hn hg
  have b1 : (t : Int) ≤ (cap : Int) := by omega
  have b2 : (0 : Int) ≤ (t : Int) := by omega
  have b3 : ¬ cap = t := by omega
  clear hrd
  conv => arg 2; whnf
  go_region_held3 (fun w' => w'.cell? ⟨bi, 0, none⟩ = some (.iface 27 (.pointer (some ⟨br, 0, none⟩))) ∧ w'.cell? ⟨bi, 1, none⟩ = some (.slice (some ⟨g, 0, none⟩) t cap)) (first | (exact ⟨h_r, hbuf⟩) | (exact ⟨d0, d1⟩) | (exact ⟨(set_off (by omega)).trans d0, (set_off (by omega)).trans d1⟩))
    (first | (go_at_call 33; refine (read_some br gd dc ch ds fv t n g t (cap - t) cur _ (by exact HRD.out) ht HNN.out (by exact HG.out) (by omega) (by omega) (by omega) (by omega) (by omega) (by omega)).mono ?_; rintro e w' ⟨rfl, hP⟩; have d0 := hP.touch.cell h_r HN.out; have d1 := hP.touch.cell hbuf HN.out; have d4 := hP.touch.cell herr HN.out; have e4 := (HF.out w' hP.touch 4).trans f4))
  exact hQ.out _ _ _ _ _ _ _ _ _ _ _ _ _ _ _ _ _ _ _ _ _ _ _ _ _ _ _ _ w' hP

set_option maxRecDepth 100000 in
set_option maxHeartbeats 4000000 in
theorem reg13_end {u1 u2 u3 u4 u5 u6 u7 u8 u9 u10 u11 u12 u13 u14 u15 u16 u17 u18 u19 u20 u21 u22 u23 u24 u25 u26 u27 u28 u29 u30 u31 u32 u33 u34 u35 u36 u37 u38 u39 u40 u41 u42 u43 u44 u45 u46 u47 u48 u49 u50 u51 u52 u53 u54 u55 u56 u57 u58 u59 u60 u61 u62 u63 u64 u65 u66 u67 u68 u69 u70 u71 u72 u73 u74 u75 u76 u77 u78 u79 u80 u81 u82 u83 u84 u85 u86 u87 u88 u89 u90 u91 u92 u93 u94 u95 u96 u97 u98 u99 u100 u101 u102 u103 u104 u105 u106 u107 u108 u109 u110 u111 u112 u113 u114 u115 u116 u117 u118 u119 u120 u121 u122 u123 u124 u125 u126 u127 u128 u129 u130 u131 u132 u133 u134 u135 u136 u137 u138 u139 u140 u141 u142 u143 u144 u145 u146 u147 u148 u149 u150 u151 : Value} {Q : Exit → Act → World → Prop} (bi br gd dc ch : Nat) (ds : List UInt8) (ft : TypeId) (fp : Value) (t g cap : Nat) (w : World) (h_r : w.cell? ⟨bi, 0, none⟩ = some (.iface 27 (.pointer (some ⟨br, 0, none⟩)))) (hbuf : w.cell? ⟨bi, 1, none⟩ = some (.slice (some ⟨g, 0, none⟩) t cap)) (herr : w.cell? ⟨bi, 4, none⟩ = some .nilIface) (f4 : w.frozen? ⟨bi, 4, none⟩ = false)
    (hrd : RdAt w br gd dc ch ds (.iface ft fp) t) (hcaps : 16384 ≤ cap ∧ cap ≤ 32768) (hord : gd < br ∧ br < bi) (hbg : bi < g) (ht : ds.length ≤ t)
    (hQ : Hid (∀ (v107 v108 v109 v110 v111 v112 v113 v114 v115 v116 v117 v118 v119 v120 v121 v122 v123 v124 v125 v126 v127 v128 v129 v130 v131 v132 v133 v134 : Value) (w' : World), Touch (fun _ => False) w.drew w' → Q .normal ⟨List.toArray (.pointer (some ⟨bi, 0, none⟩) :: u1 :: u2 :: u3 :: .int .i64 0 :: u5 :: u6 :: u7 :: u8 :: u9 :: u10 :: u11 :: u12 :: u13 :: u14 :: u15 :: u16 :: u17 :: u18 :: u19 :: u20 :: u21 :: u22 :: u23 :: u24 :: u25 :: u26 :: u27 :: u28 :: u29 :: u30 :: u31 :: u32 :: u33 :: u34 :: u35 :: u36 :: u37 :: u38 :: u39 :: u40 :: u41 :: u42 :: u43 :: u44 :: u45 :: u46 :: u47 :: u48 :: u49 :: u50 :: u51 :: u52 :: u53 :: u54 :: u55 :: u56 :: u57 :: u58 :: u59 :: u60 :: u61 :: u62 :: u63 :: u64 :: u65 :: u66 :: u67 :: u68 :: u69 :: u70 :: u71 :: u72 :: u73 :: u74 :: u75 :: u76 :: u77 :: u78 :: u79 :: u80 :: u81 :: u82 :: u83 :: u84 :: u85 :: u86 :: u87 :: u88 :: u89 :: u90 :: u91 :: u92 :: u93 :: u94 :: u95 :: u96 :: u97 :: u98 :: u99 :: u100 :: u101 :: u102 :: u103 :: u104 :: u105 :: u106 :: v107 :: v108 :: v109 :: v110 :: v111 :: v112 :: v113 :: v114 :: v115 :: v116 :: v117 :: v118 :: v119 :: v120 :: v121 :: v122 :: v123 :: v124 :: v125 :: v126 :: v127 :: v128 :: v129 :: v130 :: v131 :: v132 :: v133 :: v134 :: u135 :: u136 :: u137 :: u138 :: u139 :: u140 :: u141 :: u142 :: u143 :: u144 :: u145 :: u146 :: u147 :: u148 :: u149 :: u150 :: u151 :: []), []⟩ (w'.setCell ⟨bi, 4, none⟩ (.iface ft fp)))) :
    Code.wp Ybaf.prog (regOf 13 (Ybaf.f14.body.getD .skip)) Q ⟨List.toArray (.pointer (some ⟨bi, 0, none⟩) :: u1 :: u2 :: u3 :: u4 :: u5 :: u6 :: u7 :: u8 :: u9 :: u10 :: u11 :: u12 :: u13 :: u14 :: u15 :: u16 :: u17 :: u18 :: u19 :: u20 :: u21 :: u22 :: u23 :: u24 :: u25 :: u26 :: u27 :: u28 :: u29 :: u30 :: u31 :: u32 :: u33 :: u34 :: u35 :: u36 :: u37 :: u38 :: u39 :: u40 :: u41 :: u42 :: u43 :: u44 :: u45 :: u46 :: u47 :: u48 :: u49 :: u50 :: u51 :: u52 :: u53 :: u54 :: u55 :: u56 :: u57 :: u58 :: u59 :: u60 :: u61 :: u62 :: u63 :: u64 :: u65 :: u66 :: u67 :: u68 :: u69 :: u70 :: u71 :: u72 :: u73 :: u74 :: u75 :: u76 :: u77 :: u78 :: u79 :: u80 :: u81 :: u82 :: u83 :: u84 :: u85 :: u86 :: u87 :: u88 :: u89 :: u90 :: u91 :: u92 :: u93 :: u94 :: u95 :: u96 :: u97 :: u98 :: u99 :: u100 :: u101 :: u102 :: u103 :: u104 :: u105 :: u106 :: u107 :: u108 :: u109 :: u110 :: u111 :: u112 :: u113 :: u114 :: u115 :: u116 :: u117 :: u118 :: u119 :: u120 :: u121 :: u122 :: u123 :: u124 :: u125 :: u126 :: u127 :: u128 :: u129 :: u130 :: u131 :: u132 :: u133 :: u134 :: u135 :: u136 :: u137 :: u138 :: u139 :: u140 :: u141 :: u142 :: u143 :: u144 :: u145 :: u146 :: u147 :: u148 :: u149 :: u150 :: u151 :: []), []⟩ w := by
  have hsm := hrd.small
  have hrm := hrd.room
  have k1 := nil_ahead
  have k2 := method_read
  have HRD : Hid (RdAt w.drew br gd dc ch ds (.iface ft fp) t) := hrd.drew
  have HN : Hid (¬ False) := fun e => e
  have HF : Hid (∀ w', Touch (fun _ => False) w.drew w' → ∀ o, w'.frozen? ⟨bi, o, none⟩ = w.frozen? ⟨bi, o, none⟩) := fun w' ht o => World.frozen?_of_block (ht.block bi (World.block_lt_of_cell? w _ h_r) HN.out)
  have b1 : (t : Int) ≤ (cap : Int) := by omega
  have b2 : (0 : Int) ≤ (t : Int) := by omega
  have b3 : ¬ cap = t := by omega
  clear hrd
  conv => arg 2; whnf
  go_region_held3 (fun w' => w'.cell? ⟨bi, 0, none⟩ = some (.iface 27 (.pointer (some ⟨br, 0, none⟩))) ∧ w'.cell? ⟨bi, 1, none⟩ = some (.slice (some ⟨g, 0, none⟩) t cap)) (first | (exact ⟨h_r, hbuf⟩) | (exact ⟨d0, d1⟩) | (exact ⟨(set_off (by omega)).trans d0, (set_off (by omega)).trans d1⟩))
    (first | (go_at_call 33; refine (read_end br gd dc ch ds ft fp t _ _ (by exact HRD.out) ht).mono ?_; rintro e w' ⟨rfl, hP⟩; have d0 := hP.cell h_r HN.out; have d1 := hP.cell hbuf HN.out; have d4 := hP.cell herr HN.out; have e4 := (HF.out w' hP 4).trans f4))
  exact hQ.out _ _ _ _ _ _ _ _ _ _ _ _ _ _ _ _ _ _ _ _ _ _ _ _ _ _ _ _ w' hP

set_option maxRecDepth 100000 in
set_option maxHeartbeats 4000000 in
theorem reg14 {u1 u2 u3 u5 u6 u7 u8 u9 u10 u11 u12 u13 u14 u15 u16 u17 u18 u19 u20 u21 u22 u23 u24 u25 u26 u27 u28 u29 u30 u31 u32 u33 u34 u35 u36 u37 u38 u39 u40 u41 u42 u43 u44 u45 u46 u47 u48 u49 u50 u51 u52 u53 u54 u55 u56 u57 u58 u59 u60 u61 u62 u63 u64 u65 u66 u67 u68 u69 u70 u71 u72 u73 u74 u75 u76 u77 u78 u79 u80 u81 u82 u83 u84 u85 u86 u87 u88 u89 u90 u91 u92 u93 u94 u95 u96 u97 u98 u99 u100 u101 u102 u103 u104 u105 u106 u107 u108 u109 u110 u111 u112 u113 u114 u115 u116 u117 u118 u119 u120 u121 u122 u123 u124 u125 u126 u127 u128 u129 u130 u131 u132 u133 u134 u135 u136 u137 u138 u139 u140 u141 u142 u143 u144 u145 u146 u147 u148 u149 u150 u151 : Value} {Q : Exit → Act → World → Prop} (bi : Nat) (t g cap n : Nat) (ni : Int) (w : World) (hni : ni = (n : Int)) (c5 : w.cell? ⟨bi, 1, none⟩ = some (.slice (some ⟨g, 0, none⟩) t cap)) (f5 : w.frozen? ⟨bi, 1, none⟩ = false) (hcap : t + n ≤ cap) (hc2 : cap ≤ 32768)
    (hQ : Hid (∀ (v135 v136 v137 v138 v139 v140 v141 v142 v143 v144 v145 v146 v147 v148 v149 : Value), Q .normal ⟨List.toArray (.pointer (some ⟨bi, 0, none⟩) :: u1 :: u2 :: u3 :: .int .i64 ni :: u5 :: u6 :: u7 :: u8 :: u9 :: u10 :: u11 :: u12 :: u13 :: u14 :: u15 :: u16 :: u17 :: u18 :: u19 :: u20 :: u21 :: u22 :: u23 :: u24 :: u25 :: u26 :: u27 :: u28 :: u29 :: u30 :: u31 :: u32 :: u33 :: u34 :: u35 :: u36 :: u37 :: u38 :: u39 :: u40 :: u41 :: u42 :: u43 :: u44 :: u45 :: u46 :: u47 :: u48 :: u49 :: u50 :: u51 :: u52 :: u53 :: u54 :: u55 :: u56 :: u57 :: u58 :: u59 :: u60 :: u61 :: u62 :: u63 :: u64 :: u65 :: u66 :: u67 :: u68 :: u69 :: u70 :: u71 :: u72 :: u73 :: u74 :: u75 :: u76 :: u77 :: u78 :: u79 :: u80 :: u81 :: u82 :: u83 :: u84 :: u85 :: u86 :: u87 :: u88 :: u89 :: u90 :: u91 :: u92 :: u93 :: u94 :: u95 :: u96 :: u97 :: u98 :: u99 :: u100 :: u101 :: u102 :: u103 :: u104 :: u105 :: u106 :: u107 :: u108 :: u109 :: u110 :: u111 :: u112 :: u113 :: u114 :: u115 :: u116 :: u117 :: u118 :: u119 :: u120 :: u121 :: u122 :: u123 :: u124 :: u125 :: u126 :: u127 :: u128 :: u129 :: u130 :: u131 :: u132 :: u133 :: u134 :: v135 :: v136 :: v137 :: v138 :: v139 :: v140 :: v141 :: v142 :: v143 :: v144 :: v145 :: v146 :: v147 :: v148 :: v149 :: u150 :: u151 :: []), []⟩ (w.setCell ⟨bi, 1, none⟩ (.slice (some ⟨g, 0, none⟩) (t + n) cap)).drew)) :
    Code.wp Ybaf.prog (regOf 14 (Ybaf.f14.body.getD .skip)) Q ⟨List.toArray (.pointer (some ⟨bi, 0, none⟩) :: u1 :: u2 :: u3 :: .int .i64 ni :: u5 :: u6 :: u7 :: u8 :: u9 :: u10 :: u11 :: u12 :: u13 :: u14 :: u15 :: u16 :: u17 :: u18 :: u19 :: u20 :: u21 :: u22 :: u23 :: u24 :: u25 :: u26 :: u27 :: u28 :: u29 :: u30 :: u31 :: u32 :: u33 :: u34 :: u35 :: u36 :: u37 :: u38 :: u39 :: u40 :: u41 :: u42 :: u43 :: u44 :: u45 :: u46 :: u47 :: u48 :: u49 :: u50 :: u51 :: u52 :: u53 :: u54 :: u55 :: u56 :: u57 :: u58 :: u59 :: u60 :: u61 :: u62 :: u63 :: u64 :: u65 :: u66 :: u67 :: u68 :: u69 :: u70 :: u71 :: u72 :: u73 :: u74 :: u75 :: u76 :: u77 :: u78 :: u79 :: u80 :: u81 :: u82 :: u83 :: u84 :: u85 :: u86 :: u87 :: u88 :: u89 :: u90 :: u91 :: u92 :: u93 :: u94 :: u95 :: u96 :: u97 :: u98 :: u99 :: u100 :: u101 :: u102 :: u103 :: u104 :: u105 :: u106 :: u107 :: u108 :: u109 :: u110 :: u111 :: u112 :: u113 :: u114 :: u115 :: u116 :: u117 :: u118 :: u119 :: u120 :: u121 :: u122 :: u123 :: u124 :: u125 :: u126 :: u127 :: u128 :: u129 :: u130 :: u131 :: u132 :: u133 :: u134 :: u135 :: u136 :: u137 :: u138 :: u139 :: u140 :: u141 :: u142 :: u143 :: u144 :: u145 :: u146 :: u147 :: u148 :: u149 :: u150 :: u151 :: []), []⟩ w := by
  subst hni
  have b4 : (0 : Int) ≤ (t : Int) + (n : Int) := by omega
  have b5 : (t : Int) + (n : Int) ≤ (cap : Int) := by omega
  have b6 : ((t : Int) + (n : Int)).toNat = t + n := by omega
  conv => arg 2; whnf
  refine wp_region_noPanic ?_
  go_region
  all_goals
    refine NoPanic.normal ?_
    exact hQ.out _ _ _ _ _ _ _ _ _ _ _ _ _ _ _

end Go.Proofs.YbulkbnmoFmt

/-
  'snow.LawS3201AReach' (3), one round of the loop over the starts. (The frame written out by program.)
-/
import Derived.Test.YbulkbngqDS
namespace Go.Proofs.Ybulkbngq
open Go.RowKit Plain
set_option linter.unusedVariables false

def loopBody3 (c : Code) : Code := match loopAt 2 c with | .loop c => c | _ => .skip
theorem made_get (z : Value) (m st : Nat) (h : st < m) : (madeCells #[z] m)[st]? = some z := by
  rw [← Array.getElem?_toList, toList_madeCells_one, List.getElem?_replicate, if_pos h]
theorem made_set (w : World) (m st : Nat) : (w.alloc (.cells ((madeCells #[.bool false] m).setIfInBounds st (.bool true)) 4)).rowIs w.heap.size 4 m (bools (fun x => x == st)) := by
  have h := (World.rowIs_made w (.bool false) m 4).set st (.bool true)
  have e : (w.alloc (.cells (madeCells #[.bool false] m) 4)).setCell ⟨w.heap.size, st, none⟩ (.bool true) = w.alloc (.cells ((madeCells #[.bool false] m).setIfInBounds st (.bool true)) 4) := World.setCell_alloc_at _ _ _ _ _ rfl
  rw [e] at h
  exact h.congr (fun i hi => by
    unfold bools
    by_cases e : i = st
    · simp [e]
    · simp [e])

set_option maxRecDepth 100000 in
set_option maxHeartbeats 8000000 in
theorem round3 {u0 u1 u2 u3 u4 u5 u6 u7 u8 u11 u12 u13 u14 u15 u18 u19 u20 u21 u22 u23 u24 u25 u26 u27 u28 u29 u30 u31 u32 u33 u34 u35 u36 u37 u38 u39 u40 u41 u42 u43 u44 u45 u46 u47 u48 u49 u50 u51 u52 u53 u54 u55 u56 u57 u58 u59 u60 u61 u62 u63 u64 u65 u66 u67 u68 u69 u70 u71 u72 u73 u74 u75 u76 u77 u78 u79 u80 u81 u82 u83 u84 u85 u86 u87 u88 u89 u90 u91 u92 u93 u94 u95 u96 u97 u98 u99 u103 u104 u105 u106 u107 u108 u109 u110 u111 u112 u113 u114 u115 u116 u117 u118 u119 u120 u121 u122 u123 u124 u125 u126 u127 u128 u129 u130 u131 u132 u133 u134 u135 u136 u137 u138 u139 u140 u141 u142 u143 u144 u145 u146 u147 u148 u149 u150 u151 u152 u153 u154 u155 u156 u157 u158 u159 u160 u161 u162 u163 u164 u165 u166 u167 u168 u169 u170 u171 u172 u173 u174 u175 u176 u177 u178 u179 u180 u181 u182 u183 u184 u185 u186 u187 u188 u189 u190 u191 u192 u193 u194 u195 u196 u197 u198 u199 u200 u201 u202 u203 u204 u205 u206 u207 u208 u209 u210 u211 u212 u213 u214 u215 u216 u217 u218 u219 u220 u221 u222 u223 u224 u225 u226 u227 u228 u229 u230 u231 u232 u233 u234 u235 u236 u237 u238 u239 u240 u241 u242 u243 u244 u245 u246 u247 u248 u249 u250 u251 u252 u253 u254 u255 u256 u257 u258 u259 u260 u261 u262 u263 u264 u265 u266 u267 u268 u269 : Value} {Q : Exit → Act → World → Prop} (m bv b0 N bd bs bt ot len3 cap3 k st : Nat) (s stop : Int) (par : Nat → List Nat) (pv : Nat → Value) (mk : Nat → Int) (x0 : Option Addr) (c0 : Nat) (w0 : World) (hm : m ≤ 64) (hm0 : 0 < m) (hk : k < len3) (hl3 : len3 ≤ 256)
    (hs0 : 0 ≤ s) (hs1 : s ≤ 255) (hst : s % (m : Int) = (st : Int)) (hsm : st < m) (h0 : 0 ≤ stop) (h1 : stop ≤ 18446744073709551615) (hpl : ∀ i, i < m → (par i).length ≤ 2000)
    (hsc : w0.cell? ⟨bt, ot + k, none⟩ = some (.int .u8 s)) (hD : DS w0 m bv b0 N bd bs par pv stop k mk x0 c0)
    (hQ : Hid (∀ (v8 v18 v19 v20 v21 v22 v23 v24 v25 v26 v27 v29 v30 v32 v33 v34 v103 v104 v105 v106 v107 v108 v109 v110 v111 v112 v113 v114 v115 v116 v117 v118 v119 v120 v121 v122 v123 v124 v125 v126 v127 v128 v129 v130 v131 v132 v133 v134 v135 v136 v137 v138 v139 v140 v141 v142 v143 v144 v145 v146 v147 v148 v149 v150 v151 v152 v153 v154 v155 v156 v157 v158 v159 v160 v161 v162 v163 v164 v165 v166 v167 v168 v169 v170 v171 v172 v173 v174 v175 v176 v177 v178 v179 v180 v181 v182 v183 v184 v185 v186 v187 v188 v189 v190 v191 v192 v193 v194 v195 v196 v197 v198 v199 v200 v201 v202 v203 v204 v205 v206 v207 v208 v209 v210 v211 v212 v213 v214 v215 v216 v217 v218 v219 v220 v221 v222 v223 v224 v225 v226 v227 v228 v229 v230 v231 v232 v233 v234 v235 v236 v237 v238 v239 v240 v241 v242 v243 v244 v245 v246 v247 v248 v249 v250 v251 v252 v253 v254 v255 v256 v257 v258 v259 v260 v261 v262 v263 v264 v265 v266 v267 v268 v269 : Value) (w' : World) (mk' : Nat → Int) (x' : Option Addr) (c' : Nat), DS w' m bv b0 N bd bs par pv stop (k + 1) mk' x' c' → Touch (fun q => b0 ≤ q) w0 w' → Q .normal ⟨List.toArray (u0 :: u1 :: u2 :: u3 :: u4 :: u5 :: u6 :: u7 :: v8 :: .int .i64 m :: .slice (some ⟨bv, 0, none⟩) m m :: u11 :: u12 :: u13 :: u14 :: u15 :: .pointer (some ⟨bd, 0, none⟩) :: .pointer (some ⟨bd + 1, 0, none⟩) :: v18 :: v19 :: v20 :: v21 :: v22 :: v23 :: v24 :: v25 :: v26 :: v27 :: u28 :: v29 :: v30 :: u31 :: v32 :: v33 :: v34 :: u35 :: u36 :: u37 :: u38 :: u39 :: u40 :: u41 :: u42 :: u43 :: u44 :: u45 :: u46 :: u47 :: u48 :: u49 :: u50 :: u51 :: u52 :: u53 :: u54 :: u55 :: u56 :: u57 :: u58 :: u59 :: u60 :: u61 :: u62 :: u63 :: u64 :: u65 :: u66 :: u67 :: u68 :: u69 :: u70 :: u71 :: u72 :: u73 :: u74 :: u75 :: u76 :: u77 :: u78 :: u79 :: u80 :: u81 :: u82 :: u83 :: u84 :: u85 :: u86 :: u87 :: u88 :: u89 :: u90 :: u91 :: u92 :: u93 :: u94 :: u95 :: u96 :: u97 :: u98 :: u99 :: .slice (some ⟨bt, ot, none⟩) len3 cap3 :: .int .i64 len3 :: .int .i64 ((k : Int) + 1) :: v103 :: v104 :: v105 :: v106 :: v107 :: v108 :: v109 :: v110 :: v111 :: v112 :: v113 :: v114 :: v115 :: v116 :: v117 :: v118 :: v119 :: v120 :: v121 :: v122 :: v123 :: v124 :: v125 :: v126 :: v127 :: v128 :: v129 :: v130 :: v131 :: v132 :: v133 :: v134 :: v135 :: v136 :: v137 :: v138 :: v139 :: v140 :: v141 :: v142 :: v143 :: v144 :: v145 :: v146 :: v147 :: v148 :: v149 :: v150 :: v151 :: v152 :: v153 :: v154 :: v155 :: v156 :: v157 :: v158 :: v159 :: v160 :: v161 :: v162 :: v163 :: v164 :: v165 :: v166 :: v167 :: v168 :: v169 :: v170 :: v171 :: v172 :: v173 :: v174 :: v175 :: v176 :: v177 :: v178 :: v179 :: v180 :: v181 :: v182 :: v183 :: v184 :: v185 :: v186 :: v187 :: v188 :: v189 :: v190 :: v191 :: v192 :: v193 :: v194 :: v195 :: v196 :: v197 :: v198 :: v199 :: v200 :: v201 :: v202 :: v203 :: v204 :: v205 :: v206 :: v207 :: v208 :: v209 :: v210 :: v211 :: v212 :: v213 :: v214 :: v215 :: v216 :: v217 :: v218 :: v219 :: v220 :: v221 :: v222 :: v223 :: v224 :: v225 :: v226 :: v227 :: v228 :: v229 :: v230 :: v231 :: v232 :: v233 :: v234 :: v235 :: v236 :: v237 :: v238 :: v239 :: v240 :: v241 :: v242 :: v243 :: v244 :: v245 :: v246 :: v247 :: v248 :: v249 :: v250 :: v251 :: v252 :: v253 :: v254 :: v255 :: v256 :: v257 :: v258 :: v259 :: v260 :: v261 :: v262 :: v263 :: v264 :: v265 :: v266 :: v267 :: v268 :: v269 :: []), []⟩ w')) :
    Code.wp Yba.prog (loopBody3 (Yba.f3.body.getD .skip)) Q ⟨List.toArray (u0 :: u1 :: u2 :: u3 :: u4 :: u5 :: u6 :: u7 :: u8 :: .int .i64 m :: .slice (some ⟨bv, 0, none⟩) m m :: u11 :: u12 :: u13 :: u14 :: u15 :: .pointer (some ⟨bd, 0, none⟩) :: .pointer (some ⟨bd + 1, 0, none⟩) :: u18 :: u19 :: u20 :: u21 :: u22 :: u23 :: u24 :: u25 :: u26 :: u27 :: u28 :: u29 :: u30 :: u31 :: u32 :: u33 :: u34 :: u35 :: u36 :: u37 :: u38 :: u39 :: u40 :: u41 :: u42 :: u43 :: u44 :: u45 :: u46 :: u47 :: u48 :: u49 :: u50 :: u51 :: u52 :: u53 :: u54 :: u55 :: u56 :: u57 :: u58 :: u59 :: u60 :: u61 :: u62 :: u63 :: u64 :: u65 :: u66 :: u67 :: u68 :: u69 :: u70 :: u71 :: u72 :: u73 :: u74 :: u75 :: u76 :: u77 :: u78 :: u79 :: u80 :: u81 :: u82 :: u83 :: u84 :: u85 :: u86 :: u87 :: u88 :: u89 :: u90 :: u91 :: u92 :: u93 :: u94 :: u95 :: u96 :: u97 :: u98 :: u99 :: .slice (some ⟨bt, ot, none⟩) len3 cap3 :: .int .i64 len3 :: .int .i64 k :: u103 :: u104 :: u105 :: u106 :: u107 :: u108 :: u109 :: u110 :: u111 :: u112 :: u113 :: u114 :: u115 :: u116 :: u117 :: u118 :: u119 :: u120 :: u121 :: u122 :: u123 :: u124 :: u125 :: u126 :: u127 :: u128 :: u129 :: u130 :: u131 :: u132 :: u133 :: u134 :: u135 :: u136 :: u137 :: u138 :: u139 :: u140 :: u141 :: u142 :: u143 :: u144 :: u145 :: u146 :: u147 :: u148 :: u149 :: u150 :: u151 :: u152 :: u153 :: u154 :: u155 :: u156 :: u157 :: u158 :: u159 :: u160 :: u161 :: u162 :: u163 :: u164 :: u165 :: u166 :: u167 :: u168 :: u169 :: u170 :: u171 :: u172 :: u173 :: u174 :: u175 :: u176 :: u177 :: u178 :: u179 :: u180 :: u181 :: u182 :: u183 :: u184 :: u185 :: u186 :: u187 :: u188 :: u189 :: u190 :: u191 :: u192 :: u193 :: u194 :: u195 :: u196 :: u197 :: u198 :: u199 :: u200 :: u201 :: u202 :: u203 :: u204 :: u205 :: u206 :: u207 :: u208 :: u209 :: u210 :: u211 :: u212 :: u213 :: u214 :: u215 :: u216 :: u217 :: u218 :: u219 :: u220 :: u221 :: u222 :: u223 :: u224 :: u225 :: u226 :: u227 :: u228 :: u229 :: u230 :: u231 :: u232 :: u233 :: u234 :: u235 :: u236 :: u237 :: u238 :: u239 :: u240 :: u241 :: u242 :: u243 :: u244 :: u245 :: u246 :: u247 :: u248 :: u249 :: u250 :: u251 :: u252 :: u253 :: u254 :: u255 :: u256 :: u257 :: u258 :: u259 :: u260 :: u261 :: u262 :: u263 :: u264 :: u265 :: u266 :: u267 :: u268 :: u269 :: []), []⟩ w0 := by
  have hmk1 := run_make_row' (P := Yba.prog) 83 23 (.int .u64 0) 8 Yba.underlying83 info23 rfl .i64 .i64 m (by omega) (by omega)
  have hmk2 := run_make_row' (P := Yba.prog) 86 4 (.bool false) 1 Yba.underlying86 info4 rfl .i64 .i64 m (by omega) (by omega)
  have hmk3 := run_make_row' (P := Yba.prog) 84 3 (.int .i64 0) 8 Yba.underlying84 info3 rfl .i64 .i64 m (by omega) (by omega)
  have HST : Hid (s % (m : Int) = (st : Int)) := hst
  have HD : Hid (DS w0 m bv b0 N bd bs par pv stop k mk x0 c0) := hD
  have hdag := hD.dag
  have htop := hD.gr.top
  have hlo := hD.gr.lo
  have hlo2 := hD.lo
  have hsz0 := hD.size
  clear hst hD
  conv => arg 2; whnf
  go_wp2
  rw [HST.out]
  clear HST
  have hD1 := HD.out.keep ((Touch.refl (fun _ => False) w0).alloc (.cells (madeCells #[.int .u64 0] m) 23))
  have HP : Hid ((w0.alloc (.cells (madeCells #[.int .u64 0] m) 23)).rowIs w0.heap.size 23 m (fun _ => .int .u64 0)) := World.rowIs_made w0 (.int .u64 0) m 23
  have HD1 : Hid (DS (w0.alloc (.cells (madeCells #[.int .u64 0] m) 23)) m bv b0 N bd bs par pv stop k mk x0 c0) := hD1
  clear hD1 hsc
  refine loop4 m bv b0 N w0.heap.size par pv mk _ hm (by omega) HD1.out.gr HP.out ?_
  intro v22 v23 v115 v116 v117 v118 v119 v120 v121 v122 v123 v124 v125 v126 v127 w2 hr2 ht2
  have HT2 : Hid (Touch (fun _ => False) w0 w2) := touch_new ((Touch.refl (fun _ => False) w0).alloc _) ht2 (Nat.le_refl _)
  have HR2 : Hid (w2.rowIs w0.heap.size 23 m (fun i => .int .u64 (mk i))) := hr2
  have hD2 := HD.out.keep HT2.out
  have hs2 := HT2.out.size
  have c1 := hD2.gr.vs st hsm
  unfold vptr at c1
  have hlt2 : bv < w2.heap.size := World.block_lt_of_cell? w2 _ c1
  have hlt3 := hr2.lt
  clear ht2 hr2 HD1 HP
  have HD2 : Hid (DS w2 m bv b0 N bd bs par pv stop k mk x0 c0) := hD2
  clear hD2
  go_wp2_with fail
  have HD3 : Hid (DS (w2.alloc (.cells #[.slice none 0 0] 84)) m bv b0 N bd bs par pv stop k mk x0 c0) := HD2.out.keep ((Touch.refl (fun _ => False) w2).alloc _)
  have HT3 : Hid (Touch (fun _ => False) w0 (w2.alloc (.cells #[.slice none 0 0] 84))) := HT2.out.alloc _
  have HR3 : Hid ((w2.alloc (.cells #[.slice none 0 0] 84)).rowIs w0.heap.size 23 m (fun i => .int .u64 (mk i))) := HR2.out.alloc _
  have HL : Hid (Lay (w2.alloc (.cells #[.slice none 0 0] 84)) m b0 N bd w2.heap.size (.slice x0 0 c0)) := HD3.out.lay (by simp) (by omega) (fun q hq => by have := (HD.out.own.lt q hq).2; omega)
  refine (walk_any m bv b0 N bd w2.heap.size bs (bd + 1) st par pv ((k : Int) + 1) stop mk x0 c0 _ hm HD3.out.room HL.out HD3.out.gr hsm (by rw [show (k : Int) + 1 - 1 = (k : Int) by omega]; exact HD3.out.walks) HD3.out.f27 (by omega) (by omega) (fun i => by have := HD3.out.bound i; omega) hpl HD3.out.stack HD3.out.f28 HD3.out.own (heap_alloc_new w2 _) h0 h1 HD3.out.stopc hlo2 HD3.out.cont rfl).mono ?_
  rintro e w4 ⟨rfl, log, lv, g, cap, hW, hE⟩
  have HD4 : Hid (DS w4 m bv b0 N bd bs par pv stop (k + 1) (mkOf ((k : Int) + 1) mk log) (some ⟨g, 0, none⟩) cap) := HD3.out.walked (by omega) hE
  have hs3 := hE.touch.size
  rw [show (w2.alloc (.cells #[.slice none 0 0] 84)).heap.size = w2.heap.size + 1 by simp] at hs3
  have HR4 : Hid (w4.rowIs w0.heap.size 23 m (fun i => .int .u64 (mk i))) := row_touch HR3.out hE.touch (by
    rintro (e | e | e | e)
    · omega
    · omega
    · omega
    · have := (HD.out.own.lt _ e).2; omega)
  have HLG : Hid (LogAt w4 w2.heap.size (w2.alloc (.cells #[.slice none 0 0] 84)).heap.size lv (logv log)) := hE.lg
  have HT4 : Hid (Touch (fun q => b0 ≤ q) w0 w4) := (HT3.out.mono (fun _ _ e => e.elim)).next hE.touch (fun q hq e => by
    rcases e with e | e | e | e
    · exact e.1
    · omega
    · omega
    · have := (HD.out.own.lt _ e).1; omega)
  clear c1 hE HD3 HT3 HR3 HL HD2 HR2 HT2
  have hmg := made_get (.bool false) m st hsm
  go_wp2
  clear hmg
  -- the sweeps
  have HD5 : Hid (DS (w4.alloc (.cells ((madeCells #[.bool false] m).setIfInBounds st (.bool true)) 4)) m bv b0 N bd bs par pv stop (k + 1) (mkOf ((k : Int) + 1) mk log) (some ⟨g, 0, none⟩) cap) := HD4.out.keep ((Touch.refl (fun _ => False) w4).alloc _)
  refine loop5 m bv b0 N w4.heap.size bs (bd + 1) st stop par pv (mkOf ((k : Int) + 1) mk log) _ hm (by omega) (by omega) (by omega) hsm h0 h1 HD5.out.stopc HD5.out.cont HD5.out.gr hpl (made_set w4 m st) ?_
  intro v26 v27 v29 v140 v141 v142 v143 v144 v145 v146 v147 v148 v149 v150 v151 v152 v153 v154 v155 v156 v157 v158 v159 v160 v161 v162 v163 v164 v165 v166 v167 v168 v169 v170 v171 v172 v173 v174 v175 v176 v177 w6 T hr6 hT6 ht6
  have HT6 : Hid (Touch (fun _ => False) w4 w6) := touch_new ((Touch.refl (fun _ => False) w4).alloc _) ht6 (Nat.le_refl _)
  have hs6 := HT6.out.size
  have HR6 : Hid (w6.rowIs w4.heap.size 4 m (bools T)) := hr6
  have hlt6 := hr6.lt
  -- the log
  obtain ⟨gl, lc, hlv, hgl1, hgl2⟩ := HLG.out.own.form (by rw [logv_len]; have := hW.head; cases log with | nil => simp at this | cons a l => simp)
  rw [logv_len] at hlv
  have hlog0 : ∃ l, log = st :: l := by
    have := hW.head
    cases log with
    | nil => simp at this
    | cons a l => simp at this; exact ⟨l, by rw [this]⟩
  have hloglen : log.length ≤ 64 := by have := nodup_bound m log hW.nodup hW.lt; omega
  have HLO : Hid (w6.ownsRow (w2.alloc (.cells #[.slice none 0 0] 84)).heap.size 3 1 (.slice (some ⟨gl, 0, none⟩) log.length lc) log.length (logv log)) := by
    have := HT6.out.owns HLG.out.own (fun _ _ e => e)
    rw [logv_len, hlv] at this
    exact this
  have cL : w6.cell? ⟨w2.heap.size, 0, none⟩ = some (.slice (some ⟨gl, 0, none⟩) log.length lc) := by
    have := HT6.out.cell (cell_of_one HLG.out.var) (fun e => e)
    rw [hlv] at this
    exact this
  have hlt7 : w2.heap.size < w6.heap.size := World.block_lt_of_cell? w6 _ cL
  have HC8 : Hid ((w6.alloc (.cells (madeCells #[.int .i64 0] m) 3)).rowIs w6.heap.size 3 m (cnts [])) := World.rowIs_made w6 (.int .i64 0) m 3
  clear hr6 ht6 HD5 HLG hlv
  go_wp2
  refine loop8 m w6.heap.size gl lc _ log _ hm hloglen hW.lt (by omega) (HLO.out.alloc _) HC8.out ?_
  intro v8 v32 v182 v183 v184 v185 v186 v187 v188 v189 v190 v191 v192 v193 v194 v195 v196 v197 v198 v199 w8 hr8 ht8
  have HT8 : Hid (Touch (fun _ => False) w4 w8) := (HT6.out.alloc _).next ht8 (fun q hq e => by omega)
  have HR8 : Hid (w8.rowIs w6.heap.size 3 m (cnts log)) := hr8
  have HT68 : Hid (Touch (fun _ => False) w6 w8) := touch_new ((Touch.refl (fun _ => False) w6).alloc _) ht8 (Nat.le_refl _)
  have HD8 : Hid (DS w8 m bv b0 N bd bs par pv stop (k + 1) (mkOf ((k : Int) + 1) mk log) (some ⟨g, 0, none⟩) cap) := HD4.out.keep HT8.out
  have cL8 := HT68.out.cell cL (fun e => e)
  have cS8 : w8.cell? ⟨gl, 0, none⟩ = some (.int .i64 (st : Int)) := by
    obtain ⟨l, hl⟩ := hlog0
    have ho := HT68.out.owns HLO.out (fun _ _ e => e)
    rw [ho.cellAt 0 (by rw [hl]; simp), hl]
    rfl
  have hln : ((log.length : Int) == 0) = false := by
    obtain ⟨l, hl⟩ := hlog0
    rw [hl]
    exact beq_eq_false_iff_ne.2 (by simp; omega)
  have hlp : (0 : Int) < (log.length : Int) := by
    obtain ⟨l, hl⟩ := hlog0
    rw [hl]; simp
  have cW8 : w8.cell? ⟨bd, 27, none⟩ = some (.int .u64 ((k : Int) + 1)) := by
    have := HD8.out.walks
    rw [show (((k + 1 : Nat)) : Int) = (k : Int) + 1 by omega] at this
    exact this
  have HM : Hid (∀ x, T x = true ↔ x ∈ log) := fun x => (hT6 x).trans (hW.mem x).symm
  have HW : Hid (WDone m st (contB stop) par log) := hW
  clear hr8 ht8 HLO cL HC8 hT6 hlog0 hW
  go_wp2
  refine loop9 m bv b0 N w0.heap.size w4.heap.size w6.heap.size ((k : Int) + 1) par pv mk T log w8 hm HW.out.nodup HD8.out.gr HM.out (row_touch HR6.out HT68.out (fun e => e)) HR8.out (row_touch HR4.out HT8.out (fun e => e)) ?_
  intro v8 v34 v219 v220 v221 v222 v223 v224 v225 v226 v227 v228 v229 v230 v231 v232 v233 v234 v235 v236 v237 v238 v239 v240 v241 v242 v243 v244 v245 v246 v247 v248 v249 v250 v251 v252 v253 v254 v255 v256 v257 v258 v259 v260 v261 v262 w9 ht9
  have HT9 : Hid (Touch (fun _ => False) w4 w9) := HT8.out.trans ht9
  have HD9 : Hid (DS w9 m bv b0 N bd bs par pv stop (k + 1) (mkOf ((k : Int) + 1) mk log) (some ⟨g, 0, none⟩) cap) := HD8.out.keep ht9
  have HF : Hid (Touch (fun q => b0 ≤ q) w0 w9) := HT4.out.next HT9.out (fun _ _ e => e.elim)
  have cK := HD9.out.stack
  clear ht9 HT9 HT8 HT6 HT68 HR8 HR6 HR4 cL8 cS8 cW8 hln hlp HM HW HD8 HD4 HD HT4
  go_wp2
  exact hQ.out _ _ _ _ _ _ _ _ _ _ _ _ _ _ _ _ _ _ _ _ _ _ _ _ _ _ _ _ _ _ _ _ _ _ _ _ _ _ _ _ _ _ _ _ _ _ _ _ _ _ _ _ _ _ _ _ _ _ _ _ _ _ _ _ _ _ _ _ _ _ _ _ _ _ _ _ _ _ _ _ _ _ _ _ _ _ _ _ _ _ _ _ _ _ _ _ _ _ _ _ _ _ _ _ _ _ _ _ _ _ _ _ _ _ _ _ _ _ _ _ _ _ _ _ _ _ _ _ _ _ _ _ _ _ _ _ _ _ _ _ _ _ _ _ _ _ _ _ _ _ _ _ _ _ _ _ _ _ _ _ _ _ _ _ _ _ _ _ _ _ _ _ _ _ _ _ _ _ _ _ _ _ _ w9 _ _ _ HD9.out HF.out
end Go.Proofs.Ybulkbngq

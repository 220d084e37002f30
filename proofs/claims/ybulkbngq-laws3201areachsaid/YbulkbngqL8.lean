/-
  'snow.LawS3201AReach' (3): the counts, and the last loop of a round. (The frames written out by program.)
-/
import Derived.Test.YbulkbngqL7
namespace Go.Proofs.Ybulkbngq
open Go.RowKit Plain
set_option linter.unusedVariables false

def cnts (L : List Nat) (i : Nat) : Value := .int .i64 ((L.count i : Nat) : Int)
theorem row_touch {w w' : World} {S : Nat → Prop} {b : Nat} {t : TypeId} {n : Nat} {f : Nat → Value} (h : w.rowIs b t n f) (ht : Touch S w w') (hn : ¬ S b) : w'.rowIs b t n f := h.of_block (ht.block b h.lt hn)

set_option maxRecDepth 100000 in
set_option maxHeartbeats 2000000 in
/-- 'for _, x := range log { .. counts[x]++ }' -/
theorem loop8 {u0 u1 u2 u3 u4 u5 u6 u7 u8 u10 u11 u12 u13 u14 u15 u16 u17 u18 u19 u20 u21 u22 u23 u24 u25 u26 u27 u28 u29 u31 u32 u33 u34 u35 u36 u37 u38 u39 u40 u41 u42 u43 u44 u45 u46 u47 u48 u49 u50 u51 u52 u53 u54 u55 u56 u57 u58 u59 u60 u61 u62 u63 u64 u65 u66 u67 u68 u69 u70 u71 u72 u73 u74 u75 u76 u77 u78 u79 u80 u81 u82 u83 u84 u85 u86 u87 u88 u89 u90 u91 u92 u93 u94 u95 u96 u97 u98 u99 u100 u101 u102 u103 u104 u105 u106 u107 u108 u109 u110 u111 u112 u113 u114 u115 u116 u117 u118 u119 u120 u121 u122 u123 u124 u125 u126 u127 u128 u129 u130 u131 u132 u133 u134 u135 u136 u137 u138 u139 u140 u141 u142 u143 u144 u145 u146 u147 u148 u149 u150 u151 u152 u153 u154 u155 u156 u157 u158 u159 u160 u161 u162 u163 u164 u165 u166 u167 u168 u169 u170 u171 u172 u173 u174 u175 u176 u177 u178 u179 u183 u184 u185 u186 u187 u188 u189 u190 u191 u192 u193 u194 u195 u196 u197 u198 u199 u200 u201 u202 u203 u204 u205 u206 u207 u208 u209 u210 u211 u212 u213 u214 u215 u216 u217 u218 u219 u220 u221 u222 u223 u224 u225 u226 u227 u228 u229 u230 u231 u232 u233 u234 u235 u236 u237 u238 u239 u240 u241 u242 u243 u244 u245 u246 u247 u248 u249 u250 u251 u252 u253 u254 u255 u256 u257 u258 u259 u260 u261 u262 u263 u264 u265 u266 u267 u268 u269 : Value} {Q : Exit → Act → World → Prop} (m bn gl cap base : Nat) (log : List Nat) (w0 : World) (hm : m ≤ 64) (hlen : log.length ≤ 64) (hlt : ∀ x, x ∈ log → x < m) (hne : gl ≠ bn)
    (hl : w0.ownsRow base 3 1 (.slice (some ⟨gl, 0, none⟩) log.length cap) log.length (logv log)) (hp : w0.rowIs bn 3 m (cnts []))
    (hQ : Hid (∀ (v8 v32 v182 v183 v184 v185 v186 v187 v188 v189 v190 v191 v192 v193 v194 v195 v196 v197 v198 v199 : Value) (w' : World), w'.rowIs bn 3 m (cnts log) → Touch (fun k => k = bn) w0 w' → Q (.exit 14) ⟨List.toArray (u0 :: u1 :: u2 :: u3 :: u4 :: u5 :: u6 :: u7 :: v8 :: .int .i64 m :: u10 :: u11 :: u12 :: u13 :: u14 :: u15 :: u16 :: u17 :: u18 :: u19 :: u20 :: u21 :: u22 :: u23 :: u24 :: u25 :: u26 :: u27 :: u28 :: u29 :: .slice (some ⟨bn, 0, none⟩) m m :: u31 :: v32 :: u33 :: u34 :: u35 :: u36 :: u37 :: u38 :: u39 :: u40 :: u41 :: u42 :: u43 :: u44 :: u45 :: u46 :: u47 :: u48 :: u49 :: u50 :: u51 :: u52 :: u53 :: u54 :: u55 :: u56 :: u57 :: u58 :: u59 :: u60 :: u61 :: u62 :: u63 :: u64 :: u65 :: u66 :: u67 :: u68 :: u69 :: u70 :: u71 :: u72 :: u73 :: u74 :: u75 :: u76 :: u77 :: u78 :: u79 :: u80 :: u81 :: u82 :: u83 :: u84 :: u85 :: u86 :: u87 :: u88 :: u89 :: u90 :: u91 :: u92 :: u93 :: u94 :: u95 :: u96 :: u97 :: u98 :: u99 :: u100 :: u101 :: u102 :: u103 :: u104 :: u105 :: u106 :: u107 :: u108 :: u109 :: u110 :: u111 :: u112 :: u113 :: u114 :: u115 :: u116 :: u117 :: u118 :: u119 :: u120 :: u121 :: u122 :: u123 :: u124 :: u125 :: u126 :: u127 :: u128 :: u129 :: u130 :: u131 :: u132 :: u133 :: u134 :: u135 :: u136 :: u137 :: u138 :: u139 :: u140 :: u141 :: u142 :: u143 :: u144 :: u145 :: u146 :: u147 :: u148 :: u149 :: u150 :: u151 :: u152 :: u153 :: u154 :: u155 :: u156 :: u157 :: u158 :: u159 :: u160 :: u161 :: u162 :: u163 :: u164 :: u165 :: u166 :: u167 :: u168 :: u169 :: u170 :: u171 :: u172 :: u173 :: u174 :: u175 :: u176 :: u177 :: u178 :: u179 :: .slice (some ⟨gl, 0, none⟩) log.length cap :: .int .i64 (log.length : Nat) :: v182 :: v183 :: v184 :: v185 :: v186 :: v187 :: v188 :: v189 :: v190 :: v191 :: v192 :: v193 :: v194 :: v195 :: v196 :: v197 :: v198 :: v199 :: u200 :: u201 :: u202 :: u203 :: u204 :: u205 :: u206 :: u207 :: u208 :: u209 :: u210 :: u211 :: u212 :: u213 :: u214 :: u215 :: u216 :: u217 :: u218 :: u219 :: u220 :: u221 :: u222 :: u223 :: u224 :: u225 :: u226 :: u227 :: u228 :: u229 :: u230 :: u231 :: u232 :: u233 :: u234 :: u235 :: u236 :: u237 :: u238 :: u239 :: u240 :: u241 :: u242 :: u243 :: u244 :: u245 :: u246 :: u247 :: u248 :: u249 :: u250 :: u251 :: u252 :: u253 :: u254 :: u255 :: u256 :: u257 :: u258 :: u259 :: u260 :: u261 :: u262 :: u263 :: u264 :: u265 :: u266 :: u267 :: u268 :: u269 :: []), []⟩ w')) :
    Code.wp Yba.prog (loopAt 7 (Yba.f3.body.getD .skip)) Q ⟨List.toArray (u0 :: u1 :: u2 :: u3 :: u4 :: u5 :: u6 :: u7 :: u8 :: .int .i64 m :: u10 :: u11 :: u12 :: u13 :: u14 :: u15 :: u16 :: u17 :: u18 :: u19 :: u20 :: u21 :: u22 :: u23 :: u24 :: u25 :: u26 :: u27 :: u28 :: u29 :: .slice (some ⟨bn, 0, none⟩) m m :: u31 :: u32 :: u33 :: u34 :: u35 :: u36 :: u37 :: u38 :: u39 :: u40 :: u41 :: u42 :: u43 :: u44 :: u45 :: u46 :: u47 :: u48 :: u49 :: u50 :: u51 :: u52 :: u53 :: u54 :: u55 :: u56 :: u57 :: u58 :: u59 :: u60 :: u61 :: u62 :: u63 :: u64 :: u65 :: u66 :: u67 :: u68 :: u69 :: u70 :: u71 :: u72 :: u73 :: u74 :: u75 :: u76 :: u77 :: u78 :: u79 :: u80 :: u81 :: u82 :: u83 :: u84 :: u85 :: u86 :: u87 :: u88 :: u89 :: u90 :: u91 :: u92 :: u93 :: u94 :: u95 :: u96 :: u97 :: u98 :: u99 :: u100 :: u101 :: u102 :: u103 :: u104 :: u105 :: u106 :: u107 :: u108 :: u109 :: u110 :: u111 :: u112 :: u113 :: u114 :: u115 :: u116 :: u117 :: u118 :: u119 :: u120 :: u121 :: u122 :: u123 :: u124 :: u125 :: u126 :: u127 :: u128 :: u129 :: u130 :: u131 :: u132 :: u133 :: u134 :: u135 :: u136 :: u137 :: u138 :: u139 :: u140 :: u141 :: u142 :: u143 :: u144 :: u145 :: u146 :: u147 :: u148 :: u149 :: u150 :: u151 :: u152 :: u153 :: u154 :: u155 :: u156 :: u157 :: u158 :: u159 :: u160 :: u161 :: u162 :: u163 :: u164 :: u165 :: u166 :: u167 :: u168 :: u169 :: u170 :: u171 :: u172 :: u173 :: u174 :: u175 :: u176 :: u177 :: u178 :: u179 :: .slice (some ⟨gl, 0, none⟩) log.length cap :: .int .i64 (log.length : Nat) :: .int .i64 0 :: u183 :: u184 :: u185 :: u186 :: u187 :: u188 :: u189 :: u190 :: u191 :: u192 :: u193 :: u194 :: u195 :: u196 :: u197 :: u198 :: u199 :: u200 :: u201 :: u202 :: u203 :: u204 :: u205 :: u206 :: u207 :: u208 :: u209 :: u210 :: u211 :: u212 :: u213 :: u214 :: u215 :: u216 :: u217 :: u218 :: u219 :: u220 :: u221 :: u222 :: u223 :: u224 :: u225 :: u226 :: u227 :: u228 :: u229 :: u230 :: u231 :: u232 :: u233 :: u234 :: u235 :: u236 :: u237 :: u238 :: u239 :: u240 :: u241 :: u242 :: u243 :: u244 :: u245 :: u246 :: u247 :: u248 :: u249 :: u250 :: u251 :: u252 :: u253 :: u254 :: u255 :: u256 :: u257 :: u258 :: u259 :: u260 :: u261 :: u262 :: u263 :: u264 :: u265 :: u266 :: u267 :: u268 :: u269 :: []), []⟩ w0 := by
  have hbn : bn < w0.heap.size := hp.lt
  have HL : Hid (w0.ownsRow base 3 1 (.slice (some ⟨gl, 0, none⟩) log.length cap) log.length (logv log)) := hl
  have HP : Hid (w0.rowIs bn 3 m (cnts [])) := hp
  clear hl hp
  conv => arg 2; whnf
  go_loopg [182] log.length (fun k cc wr => ∃ (j : Nat), k + j = log.length ∧ cc = .int .i64 j ∧ wr.rowIs bn 3 m (cnts (log.take j)) ∧ Touch (fun k => k = bn) w0 wr)
  case atStart => exact ⟨0, rfl, rfl, HP.out, Touch.refl _ _⟩
  case round =>
    clear HP
    obtain ⟨j, hkj, rfl, hr, ht⟩ := hrel
    by_cases hj : j < log.length
    · obtain ⟨x, hx⟩ : ∃ x, x = log[j] := ⟨_, rfl⟩
      have c1 : wr.cell? ⟨gl, j, none⟩ = some (.int .i64 (x : Int)) := by
        have ho := ht.owns HL.out (fun k hk => by simp only [Value.ownBlock, Option.some.injEq] at hk; omega)
        rw [ho.cellAt j (by omega), logv_get log j hj, hx]
      have hxm : x < m := by rw [hx]; exact hlt _ (List.getElem_mem hj)
      have d1 : decide ((x : Int) < 0) = false := by simp
      have d2 : decide ((m : Int) ≤ (x : Int)) = false := by simp; omega
      have c2 := hr.cell hxm
      unfold cnts at c2
      have c3 := hr.frozen x
      have b1 := count_le_len log j x
      have R1 := hr.set x (.int .i64 (((log.take j).count x : Nat) + 1 : Int))
      have HR : Hid ((wr.setCell ⟨bn, x, none⟩ (.int .i64 (((log.take j).count x : Nat) + 1 : Int))).rowIs bn 3 m (cnts (log.take (j + 1)))) := R1.congr (fun i hi => by
        unfold cnts
        rw [count_snoc log j hj i, ← hx]
        by_cases e : i = x
        · subst e; simp
        · simp [e])
      have HT : Hid (Touch (fun k => k = bn) w0 (wr.setCell ⟨bn, x, none⟩ (.int .i64 (((log.take j).count x : Nat) + 1 : Int)))) := ht.setCell (p := ⟨bn, x, none⟩) (fun _ => rfl) _
      clear R1 hr ht hx
      generalize (log.take j).count x = cx at *
      go_wp2
      go_roundg (log.length - (j + 1))
      case measure => omega
      case rel => exact ⟨j + 1, by omega, by go_num, HR.out, HT.out⟩
    · have HR : Hid (wr.rowIs bn 3 m (cnts log)) := by rw [List.take_of_length_le (by omega)] at hr; exact hr
      have HT : Hid (Touch (fun k => k = bn) w0 wr) := ht
      clear hr ht
      go_wp2
      exact hQ.out _ _ _ _ _ _ _ _ _ _ _ _ _ _ _ _ _ _ _ _ _ HR.out HT.out

set_option maxRecDepth 100000 in
set_option maxHeartbeats 2000000 in
/-- The last loop: each vertex is as the sweeps say. -/
theorem loop9 {u0 u1 u2 u3 u4 u5 u6 u7 u8 u11 u12 u13 u14 u15 u16 u17 u18 u19 u20 u22 u23 u24 u26 u27 u28 u29 u31 u32 u35 u36 u37 u38 u39 u40 u41 u42 u43 u44 u45 u46 u47 u48 u49 u50 u51 u52 u53 u54 u55 u56 u57 u58 u59 u60 u61 u62 u63 u64 u65 u66 u67 u68 u69 u70 u71 u72 u73 u74 u75 u76 u77 u78 u79 u80 u81 u82 u83 u84 u85 u86 u87 u88 u89 u90 u91 u92 u93 u94 u95 u96 u97 u98 u99 u100 u101 u102 u103 u104 u105 u106 u107 u108 u109 u110 u111 u112 u113 u114 u115 u116 u117 u118 u119 u120 u121 u122 u123 u124 u125 u126 u127 u128 u129 u130 u131 u132 u133 u134 u135 u136 u137 u138 u139 u140 u141 u142 u143 u144 u145 u146 u147 u148 u149 u150 u151 u152 u153 u154 u155 u156 u157 u158 u159 u160 u161 u162 u163 u164 u165 u166 u167 u168 u169 u170 u171 u172 u173 u174 u175 u176 u177 u178 u179 u180 u181 u182 u183 u184 u185 u186 u187 u188 u189 u190 u191 u192 u193 u194 u195 u196 u197 u198 u199 u200 u201 u202 u203 u204 u205 u206 u207 u208 u209 u210 u211 u212 u213 u214 u215 u216 u217 u218 u219 u220 u221 u222 u223 u224 u225 u226 u227 u228 u229 u230 u231 u232 u233 u234 u235 u236 u237 u238 u239 u240 u241 u242 u243 u244 u245 u246 u247 u248 u249 u250 u251 u252 u253 u254 u255 u256 u257 u258 u259 u260 u261 u262 u263 u264 u265 u266 u267 u268 u269 : Value} {Q : Exit → Act → World → Prop} (m bv b0 N bp br bn : Nat) (W : Int) (par : Nat → List Nat) (pv : Nat → Value) (mk0 : Nat → Int) (T : Nat → Bool) (log : List Nat) (w0 : World) (hm : m ≤ 64) (hnd : log.Nodup)
    (hg : Graph w0 m bv b0 N par pv (mkOf W mk0 log)) (hT : ∀ x, T x = true ↔ x ∈ log) (hr : w0.rowIs br 4 m (bools T)) (hn : w0.rowIs bn 3 m (cnts log)) (hp : w0.rowIs bp 23 m (fun i => .int .u64 (mk0 i)))
    (hQ : Hid (∀ (v8 v34 v219 v220 v221 v222 v223 v224 v225 v226 v227 v228 v229 v230 v231 v232 v233 v234 v235 v236 v237 v238 v239 v240 v241 v242 v243 v244 v245 v246 v247 v248 v249 v250 v251 v252 v253 v254 v255 v256 v257 v258 v259 v260 v261 v262 : Value) (w' : World), Touch (fun k => False) w0 w' → Q (.exit 16) ⟨List.toArray (u0 :: u1 :: u2 :: u3 :: u4 :: u5 :: u6 :: u7 :: v8 :: .int .i64 m :: .slice (some ⟨bv, 0, none⟩) m m :: u11 :: u12 :: u13 :: u14 :: u15 :: u16 :: u17 :: u18 :: u19 :: u20 :: .slice (some ⟨bp, 0, none⟩) m m :: u22 :: u23 :: u24 :: .slice (some ⟨br, 0, none⟩) m m :: u26 :: u27 :: u28 :: u29 :: .slice (some ⟨bn, 0, none⟩) m m :: u31 :: u32 :: .int .u64 W :: v34 :: u35 :: u36 :: u37 :: u38 :: u39 :: u40 :: u41 :: u42 :: u43 :: u44 :: u45 :: u46 :: u47 :: u48 :: u49 :: u50 :: u51 :: u52 :: u53 :: u54 :: u55 :: u56 :: u57 :: u58 :: u59 :: u60 :: u61 :: u62 :: u63 :: u64 :: u65 :: u66 :: u67 :: u68 :: u69 :: u70 :: u71 :: u72 :: u73 :: u74 :: u75 :: u76 :: u77 :: u78 :: u79 :: u80 :: u81 :: u82 :: u83 :: u84 :: u85 :: u86 :: u87 :: u88 :: u89 :: u90 :: u91 :: u92 :: u93 :: u94 :: u95 :: u96 :: u97 :: u98 :: u99 :: u100 :: u101 :: u102 :: u103 :: u104 :: u105 :: u106 :: u107 :: u108 :: u109 :: u110 :: u111 :: u112 :: u113 :: u114 :: u115 :: u116 :: u117 :: u118 :: u119 :: u120 :: u121 :: u122 :: u123 :: u124 :: u125 :: u126 :: u127 :: u128 :: u129 :: u130 :: u131 :: u132 :: u133 :: u134 :: u135 :: u136 :: u137 :: u138 :: u139 :: u140 :: u141 :: u142 :: u143 :: u144 :: u145 :: u146 :: u147 :: u148 :: u149 :: u150 :: u151 :: u152 :: u153 :: u154 :: u155 :: u156 :: u157 :: u158 :: u159 :: u160 :: u161 :: u162 :: u163 :: u164 :: u165 :: u166 :: u167 :: u168 :: u169 :: u170 :: u171 :: u172 :: u173 :: u174 :: u175 :: u176 :: u177 :: u178 :: u179 :: u180 :: u181 :: u182 :: u183 :: u184 :: u185 :: u186 :: u187 :: u188 :: u189 :: u190 :: u191 :: u192 :: u193 :: u194 :: u195 :: u196 :: u197 :: u198 :: u199 :: u200 :: u201 :: u202 :: u203 :: u204 :: u205 :: u206 :: u207 :: u208 :: u209 :: u210 :: u211 :: u212 :: u213 :: u214 :: u215 :: u216 :: u217 :: u218 :: v219 :: v220 :: v221 :: v222 :: v223 :: v224 :: v225 :: v226 :: v227 :: v228 :: v229 :: v230 :: v231 :: v232 :: v233 :: v234 :: v235 :: v236 :: v237 :: v238 :: v239 :: v240 :: v241 :: v242 :: v243 :: v244 :: v245 :: v246 :: v247 :: v248 :: v249 :: v250 :: v251 :: v252 :: v253 :: v254 :: v255 :: v256 :: v257 :: v258 :: v259 :: v260 :: v261 :: v262 :: u263 :: u264 :: u265 :: u266 :: u267 :: u268 :: u269 :: []), []⟩ w')) :
    Code.wp Yba.prog (loopAt 8 (Yba.f3.body.getD .skip)) Q ⟨List.toArray (u0 :: u1 :: u2 :: u3 :: u4 :: u5 :: u6 :: u7 :: u8 :: .int .i64 m :: .slice (some ⟨bv, 0, none⟩) m m :: u11 :: u12 :: u13 :: u14 :: u15 :: u16 :: u17 :: u18 :: u19 :: u20 :: .slice (some ⟨bp, 0, none⟩) m m :: u22 :: u23 :: u24 :: .slice (some ⟨br, 0, none⟩) m m :: u26 :: u27 :: u28 :: u29 :: .slice (some ⟨bn, 0, none⟩) m m :: u31 :: u32 :: .int .u64 W :: .int .i64 0 :: u35 :: u36 :: u37 :: u38 :: u39 :: u40 :: u41 :: u42 :: u43 :: u44 :: u45 :: u46 :: u47 :: u48 :: u49 :: u50 :: u51 :: u52 :: u53 :: u54 :: u55 :: u56 :: u57 :: u58 :: u59 :: u60 :: u61 :: u62 :: u63 :: u64 :: u65 :: u66 :: u67 :: u68 :: u69 :: u70 :: u71 :: u72 :: u73 :: u74 :: u75 :: u76 :: u77 :: u78 :: u79 :: u80 :: u81 :: u82 :: u83 :: u84 :: u85 :: u86 :: u87 :: u88 :: u89 :: u90 :: u91 :: u92 :: u93 :: u94 :: u95 :: u96 :: u97 :: u98 :: u99 :: u100 :: u101 :: u102 :: u103 :: u104 :: u105 :: u106 :: u107 :: u108 :: u109 :: u110 :: u111 :: u112 :: u113 :: u114 :: u115 :: u116 :: u117 :: u118 :: u119 :: u120 :: u121 :: u122 :: u123 :: u124 :: u125 :: u126 :: u127 :: u128 :: u129 :: u130 :: u131 :: u132 :: u133 :: u134 :: u135 :: u136 :: u137 :: u138 :: u139 :: u140 :: u141 :: u142 :: u143 :: u144 :: u145 :: u146 :: u147 :: u148 :: u149 :: u150 :: u151 :: u152 :: u153 :: u154 :: u155 :: u156 :: u157 :: u158 :: u159 :: u160 :: u161 :: u162 :: u163 :: u164 :: u165 :: u166 :: u167 :: u168 :: u169 :: u170 :: u171 :: u172 :: u173 :: u174 :: u175 :: u176 :: u177 :: u178 :: u179 :: u180 :: u181 :: u182 :: u183 :: u184 :: u185 :: u186 :: u187 :: u188 :: u189 :: u190 :: u191 :: u192 :: u193 :: u194 :: u195 :: u196 :: u197 :: u198 :: u199 :: u200 :: u201 :: u202 :: u203 :: u204 :: u205 :: u206 :: u207 :: u208 :: u209 :: u210 :: u211 :: u212 :: u213 :: u214 :: u215 :: u216 :: u217 :: u218 :: u219 :: u220 :: u221 :: u222 :: u223 :: u224 :: u225 :: u226 :: u227 :: u228 :: u229 :: u230 :: u231 :: u232 :: u233 :: u234 :: u235 :: u236 :: u237 :: u238 :: u239 :: u240 :: u241 :: u242 :: u243 :: u244 :: u245 :: u246 :: u247 :: u248 :: u249 :: u250 :: u251 :: u252 :: u253 :: u254 :: u255 :: u256 :: u257 :: u258 :: u259 :: u260 :: u261 :: u262 :: u263 :: u264 :: u265 :: u266 :: u267 :: u268 :: u269 :: []), []⟩ w0 := by
  have HG : Hid (Graph w0 m bv b0 N par pv (mkOf W mk0 log)) := hg
  have HR : Hid (w0.rowIs br 4 m (bools T)) := hr
  have HN : Hid (w0.rowIs bn 3 m (cnts log)) := hn
  have HP : Hid (w0.rowIs bp 23 m (fun i => .int .u64 (mk0 i))) := hp
  clear hg hr hn hp
  conv => arg 2; whnf
  go_loopg [34] m (fun k cc wr => ∃ (i : Nat), k + i = m ∧ cc = .int .i64 i ∧ Touch (fun k => False) w0 wr)
  case atStart => exact ⟨0, rfl, rfl, Touch.refl _ _⟩
  case round =>
    obtain ⟨i, hki, rfl, ht⟩ := hrel
    by_cases hi : i < m
    · have hG := HG.out.touch ht (fun k hk e => e)
      have c1 := (row_touch HR.out ht (fun e => e)).cell hi
      have c2 := (row_touch HN.out ht (fun e => e)).cell hi
      have c3 := (row_touch HP.out ht (fun e => e)).cell hi
      have c4 := hG.vs i hi
      have c5 := hG.mark i hi
      unfold bools at c1
      unfold cnts at c2
      unfold vptr at c4
      have HT : Hid (Touch (fun k => False) w0 wr) := ht
      clear ht hG
      cases hTi : T i
      · have hni : i ∉ log := fun e => by rw [(hT i).2 e] at hTi; cases hTi
        rw [hTi] at c1
        rw [count_out hni] at c2
        rw [mkOf_out hni] at c5
        go_wp2
        go_quiet (fail)
        go_wp2
        go_roundg (m - (i + 1))
        case measure => omega
        case rel => exact ⟨i + 1, by omega, by go_num, HT.out.drewN _⟩
      · have hni : i ∈ log := (hT i).1 hTi
        rw [hTi] at c1
        rw [count_in hnd hni] at c2
        rw [mkOf_in hni] at c5
        go_wp2
        go_roundg (m - (i + 1))
        case measure => omega
        case rel => exact ⟨i + 1, by omega, by go_num, HT.out⟩
    · have HT : Hid (Touch (fun k => False) w0 wr) := ht
      clear ht
      go_wp2
      exact hQ.out _ _ _ _ _ _ _ _ _ _ _ _ _ _ _ _ _ _ _ _ _ _ _ _ _ _ _ _ _ _ _ _ _ _ _ _ _ _ _ _ _ _ _ _ _ _ _ HT.out

end Go.Proofs.Ybulkbngq

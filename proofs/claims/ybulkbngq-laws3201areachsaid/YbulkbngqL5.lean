/-
  'snow.LawS3201AReach' (3), the rounds of the sweeps. (The frame written out by program.)
-/
import Derived.Test.YbulkbngqL7
namespace Go.Proofs.Ybulkbngq
open Go.RowKit Plain
set_option linter.unusedVariables false

set_option maxRecDepth 100000 in
set_option maxHeartbeats 2000000 in
/-- The sweeps: 'reached' is what is reached. -/
theorem loop5 {u0 u1 u2 u3 u4 u5 u6 u7 u8 u11 u12 u13 u14 u15 u16 u18 u19 u20 u21 u22 u23 u24 u27 u28 u29 u30 u31 u32 u33 u34 u35 u36 u37 u38 u39 u40 u41 u42 u43 u44 u45 u46 u47 u48 u49 u50 u51 u52 u53 u54 u55 u56 u57 u58 u59 u60 u61 u62 u63 u64 u65 u66 u67 u68 u69 u70 u71 u72 u73 u74 u75 u76 u77 u78 u79 u80 u81 u82 u83 u84 u85 u86 u87 u88 u89 u90 u91 u92 u93 u94 u95 u96 u97 u98 u99 u100 u101 u102 u103 u104 u105 u106 u107 u108 u109 u110 u111 u112 u113 u114 u115 u116 u117 u118 u119 u120 u121 u122 u123 u124 u125 u126 u127 u128 u129 u130 u131 u132 u133 u134 u135 u136 u137 u138 u139 u140 u141 u142 u143 u144 u145 u146 u147 u148 u149 u150 u151 u152 u153 u154 u155 u156 u157 u158 u159 u160 u161 u162 u163 u164 u165 u166 u167 u168 u169 u170 u171 u172 u173 u174 u175 u176 u177 u178 u179 u180 u181 u182 u183 u184 u185 u186 u187 u188 u189 u190 u191 u192 u193 u194 u195 u196 u197 u198 u199 u200 u201 u202 u203 u204 u205 u206 u207 u208 u209 u210 u211 u212 u213 u214 u215 u216 u217 u218 u219 u220 u221 u222 u223 u224 u225 u226 u227 u228 u229 u230 u231 u232 u233 u234 u235 u236 u237 u238 u239 u240 u241 u242 u243 u244 u245 u246 u247 u248 u249 u250 u251 u252 u253 u254 u255 u256 u257 u258 u259 u260 u261 u262 u263 u264 u265 u266 u267 u268 u269 : Value} {Q : Exit → Act → World → Prop} (m bv b0 N br bs bc st : Nat) (stop : Int) (par : Nat → List Nat) (pv : Nat → Value) (mk : Nat → Int) (w0 : World) (hm : m ≤ 64) (hN : N ≤ br) (hbs : bs ≠ br) (hbc : bc ≠ br) (hst : st < m)
    (h0 : 0 ≤ stop) (h1 : stop ≤ 18446744073709551615) (hs : w0.cell? ⟨bs, 0, none⟩ = some (.int .u64 stop)) (hc : w0.cell? ⟨bc, 0, none⟩ = some (.func (.func 6) #[] #[.pointer (some ⟨bs, 0, none⟩)]))
    (hg : Graph w0 m bv b0 N par pv mk) (hlen : ∀ i, i < m → (par i).length ≤ 2000) (hp : w0.rowIs br 4 m (bools (fun x => x == st)))
    (hQ : Hid (∀ (v26 v27 v29 v140 v141 v142 v143 v144 v145 v146 v147 v148 v149 v150 v151 v152 v153 v154 v155 v156 v157 v158 v159 v160 v161 v162 v163 v164 v165 v166 v167 v168 v169 v170 v171 v172 v173 v174 v175 v176 v177 : Value) (w' : World) (T' : Nat → Bool), w'.rowIs br 4 m (bools T') → (∀ x, T' x = true ↔ Plain.Reach st (contB stop) par x) → Touch (fun k => k = br) w0 w' → Q (.exit 8) ⟨List.toArray (u0 :: u1 :: u2 :: u3 :: u4 :: u5 :: u6 :: u7 :: u8 :: .int .i64 m :: .slice (some ⟨bv, 0, none⟩) m m :: u11 :: u12 :: u13 :: u14 :: u15 :: u16 :: .pointer (some ⟨bc, 0, none⟩) :: u18 :: u19 :: u20 :: u21 :: u22 :: u23 :: u24 :: .slice (some ⟨br, 0, none⟩) m m :: v26 :: v27 :: u28 :: v29 :: u30 :: u31 :: u32 :: u33 :: u34 :: u35 :: u36 :: u37 :: u38 :: u39 :: u40 :: u41 :: u42 :: u43 :: u44 :: u45 :: u46 :: u47 :: u48 :: u49 :: u50 :: u51 :: u52 :: u53 :: u54 :: u55 :: u56 :: u57 :: u58 :: u59 :: u60 :: u61 :: u62 :: u63 :: u64 :: u65 :: u66 :: u67 :: u68 :: u69 :: u70 :: u71 :: u72 :: u73 :: u74 :: u75 :: u76 :: u77 :: u78 :: u79 :: u80 :: u81 :: u82 :: u83 :: u84 :: u85 :: u86 :: u87 :: u88 :: u89 :: u90 :: u91 :: u92 :: u93 :: u94 :: u95 :: u96 :: u97 :: u98 :: u99 :: u100 :: u101 :: u102 :: u103 :: u104 :: u105 :: u106 :: u107 :: u108 :: u109 :: u110 :: u111 :: u112 :: u113 :: u114 :: u115 :: u116 :: u117 :: u118 :: u119 :: u120 :: u121 :: u122 :: u123 :: u124 :: u125 :: u126 :: u127 :: u128 :: u129 :: u130 :: u131 :: u132 :: u133 :: u134 :: u135 :: u136 :: u137 :: u138 :: u139 :: v140 :: v141 :: v142 :: v143 :: v144 :: v145 :: v146 :: v147 :: v148 :: v149 :: v150 :: v151 :: v152 :: v153 :: v154 :: v155 :: v156 :: v157 :: v158 :: v159 :: v160 :: v161 :: v162 :: v163 :: v164 :: v165 :: v166 :: v167 :: v168 :: v169 :: v170 :: v171 :: v172 :: v173 :: v174 :: v175 :: v176 :: v177 :: u178 :: u179 :: u180 :: u181 :: u182 :: u183 :: u184 :: u185 :: u186 :: u187 :: u188 :: u189 :: u190 :: u191 :: u192 :: u193 :: u194 :: u195 :: u196 :: u197 :: u198 :: u199 :: u200 :: u201 :: u202 :: u203 :: u204 :: u205 :: u206 :: u207 :: u208 :: u209 :: u210 :: u211 :: u212 :: u213 :: u214 :: u215 :: u216 :: u217 :: u218 :: u219 :: u220 :: u221 :: u222 :: u223 :: u224 :: u225 :: u226 :: u227 :: u228 :: u229 :: u230 :: u231 :: u232 :: u233 :: u234 :: u235 :: u236 :: u237 :: u238 :: u239 :: u240 :: u241 :: u242 :: u243 :: u244 :: u245 :: u246 :: u247 :: u248 :: u249 :: u250 :: u251 :: u252 :: u253 :: u254 :: u255 :: u256 :: u257 :: u258 :: u259 :: u260 :: u261 :: u262 :: u263 :: u264 :: u265 :: u266 :: u267 :: u268 :: u269 :: []), []⟩ w')) :
    Code.wp Yba.prog (loopAt 4 (Yba.f3.body.getD .skip)) Q ⟨List.toArray (u0 :: u1 :: u2 :: u3 :: u4 :: u5 :: u6 :: u7 :: u8 :: .int .i64 m :: .slice (some ⟨bv, 0, none⟩) m m :: u11 :: u12 :: u13 :: u14 :: u15 :: u16 :: .pointer (some ⟨bc, 0, none⟩) :: u18 :: u19 :: u20 :: u21 :: u22 :: u23 :: u24 :: .slice (some ⟨br, 0, none⟩) m m :: .int .i64 0 :: u27 :: u28 :: u29 :: u30 :: u31 :: u32 :: u33 :: u34 :: u35 :: u36 :: u37 :: u38 :: u39 :: u40 :: u41 :: u42 :: u43 :: u44 :: u45 :: u46 :: u47 :: u48 :: u49 :: u50 :: u51 :: u52 :: u53 :: u54 :: u55 :: u56 :: u57 :: u58 :: u59 :: u60 :: u61 :: u62 :: u63 :: u64 :: u65 :: u66 :: u67 :: u68 :: u69 :: u70 :: u71 :: u72 :: u73 :: u74 :: u75 :: u76 :: u77 :: u78 :: u79 :: u80 :: u81 :: u82 :: u83 :: u84 :: u85 :: u86 :: u87 :: u88 :: u89 :: u90 :: u91 :: u92 :: u93 :: u94 :: u95 :: u96 :: u97 :: u98 :: u99 :: u100 :: u101 :: u102 :: u103 :: u104 :: u105 :: u106 :: u107 :: u108 :: u109 :: u110 :: u111 :: u112 :: u113 :: u114 :: u115 :: u116 :: u117 :: u118 :: u119 :: u120 :: u121 :: u122 :: u123 :: u124 :: u125 :: u126 :: u127 :: u128 :: u129 :: u130 :: u131 :: u132 :: u133 :: u134 :: u135 :: u136 :: u137 :: u138 :: u139 :: u140 :: u141 :: u142 :: u143 :: u144 :: u145 :: u146 :: u147 :: u148 :: u149 :: u150 :: u151 :: u152 :: u153 :: u154 :: u155 :: u156 :: u157 :: u158 :: u159 :: u160 :: u161 :: u162 :: u163 :: u164 :: u165 :: u166 :: u167 :: u168 :: u169 :: u170 :: u171 :: u172 :: u173 :: u174 :: u175 :: u176 :: u177 :: u178 :: u179 :: u180 :: u181 :: u182 :: u183 :: u184 :: u185 :: u186 :: u187 :: u188 :: u189 :: u190 :: u191 :: u192 :: u193 :: u194 :: u195 :: u196 :: u197 :: u198 :: u199 :: u200 :: u201 :: u202 :: u203 :: u204 :: u205 :: u206 :: u207 :: u208 :: u209 :: u210 :: u211 :: u212 :: u213 :: u214 :: u215 :: u216 :: u217 :: u218 :: u219 :: u220 :: u221 :: u222 :: u223 :: u224 :: u225 :: u226 :: u227 :: u228 :: u229 :: u230 :: u231 :: u232 :: u233 :: u234 :: u235 :: u236 :: u237 :: u238 :: u239 :: u240 :: u241 :: u242 :: u243 :: u244 :: u245 :: u246 :: u247 :: u248 :: u249 :: u250 :: u251 :: u252 :: u253 :: u254 :: u255 :: u256 :: u257 :: u258 :: u259 :: u260 :: u261 :: u262 :: u263 :: u264 :: u265 :: u266 :: u267 :: u268 :: u269 :: []), []⟩ w0 := by
  have hbr : br < w0.heap.size := hp.lt
  have htop := hg.top
  have hlo := hg.lo
  have HG : Hid (Graph w0 m bv b0 N par pv mk) := hg
  have HP : Hid (w0.rowIs br 4 m (bools (fun x => x == st))) := hp
  have HS : Hid (w0.cell? ⟨bs, 0, none⟩ = some (.int .u64 stop)) := hs
  have HC : Hid (w0.cell? ⟨bc, 0, none⟩ = some (.func (.func 6) #[] #[.pointer (some ⟨bs, 0, none⟩)])) := hc
  clear hg hp hs hc
  conv => arg 2; whnf
  go_loopg [26] m (fun k cc wr => ∃ (r : Nat) (T' : Nat → Bool), k + r = m ∧ cc = .int .i64 r ∧ RInv m st (contB stop) par r T' ∧ wr.rowIs br 4 m (bools T') ∧ Touch (fun k => k = br) w0 wr)
  case atStart => exact ⟨0, _, rfl, rfl, RInv.first m st _ par hst, HP.out, Touch.refl _ _⟩
  case round =>
    clear HP
    obtain ⟨r, T', hki, rfl, hI, hr, ht⟩ := hrel
    have HR : Hid (wr.rowIs br 4 m (bools T')) := hr
    have HT : Hid (Touch (fun k => k = br) w0 wr) := ht
    by_cases hi : r < m
    · have HG2 : Hid (Graph wr m bv b0 N par pv mk) := HG.out.touch ht (fun k hk e => by omega)
      have HC2 : Hid (wr.cell? ⟨bc, 0, none⟩ = some (.func (.func 6) #[] #[.pointer (some ⟨bs, 0, none⟩)])) := ht.cell HC.out hbc
      have HS2 : Hid (wr.cell? ⟨bs, 0, none⟩ = some (.int .u64 stop)) := ht.cell HS.out hbs
      clear hr ht
      go_wp2
      refine loop6 m bv b0 N br bs bc st stop par pv mk T' wr hm hN hbs hbc h0 h1 HS2.out HC2.out HG2.out hlen HR.out hI.sweep ?_
      clear HG2 HC2 HS2 HR
      intro v27 v29 v145 v146 v147 v148 v149 v150 v151 v152 v153 v154 v155 v156 v157 v158 v159 v160 v161 v162 v163 v164 v165 v166 v167 v168 v169 v170 v171 v172 v173 v174 v175 v176 v177 w2 T2 hr2 hI2 ht2
      have HR2 : Hid (w2.rowIs br 4 m (bools T2)) := hr2
      have HT2 : Hid (Touch (fun k => k = br) w0 w2) := HT.out.trans ht2
      have HI2 : Hid (RInv m st (contB stop) par (r + 1) T2) := hI2.next hI
      clear hr2 ht2 HT hI2 hI
      go_wp2
      go_roundg (m - (r + 1))
      case measure => omega
      case rel => exact ⟨r + 1, _, by omega, by go_num, HI2.out, HR2.out, HT2.out⟩
    · obtain rfl : r = m := by omega
      clear hr ht
      go_wp2
      exact hQ.out _ _ _ _ _ _ _ _ _ _ _ _ _ _ _ _ _ _ _ _ _ _ _ _ _ _ _ _ _ _ _ _ _ _ _ _ _ _ _ _ _ _ _ HR.out (fun x => hI.fin x) HT.out

end Go.Proofs.Ybulkbngq

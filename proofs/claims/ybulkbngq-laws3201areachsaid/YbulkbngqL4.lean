/-
  'snow.LawS3201AReach' (3), the loop that copies the marks: 'for i, v := range vs { prev[i] = v.mark }'. (The frame written out by program.)
-/
import Derived.Test.YbulkbngqMem
namespace Go.Proofs.Ybulkbngq
open Go.RowKit Plain
set_option linter.unusedVariables false

set_option maxRecDepth 100000 in
set_option maxHeartbeats 1000000 in
theorem loop4 {u0 u1 u2 u3 u4 u5 u6 u7 u8 u9 u11 u12 u13 u14 u15 u16 u17 u18 u19 u20 u22 u23 u24 u25 u26 u27 u28 u29 u30 u31 u32 u33 u34 u35 u36 u37 u38 u39 u40 u41 u42 u43 u44 u45 u46 u47 u48 u49 u50 u51 u52 u53 u54 u55 u56 u57 u58 u59 u60 u61 u62 u63 u64 u65 u66 u67 u68 u69 u70 u71 u72 u73 u74 u75 u76 u77 u78 u79 u80 u81 u82 u83 u84 u85 u86 u87 u88 u89 u90 u91 u92 u93 u94 u95 u96 u97 u98 u99 u100 u101 u102 u103 u104 u105 u106 u107 u108 u109 u110 u111 u112 u116 u117 u118 u119 u120 u121 u122 u123 u124 u125 u126 u127 u128 u129 u130 u131 u132 u133 u134 u135 u136 u137 u138 u139 u140 u141 u142 u143 u144 u145 u146 u147 u148 u149 u150 u151 u152 u153 u154 u155 u156 u157 u158 u159 u160 u161 u162 u163 u164 u165 u166 u167 u168 u169 u170 u171 u172 u173 u174 u175 u176 u177 u178 u179 u180 u181 u182 u183 u184 u185 u186 u187 u188 u189 u190 u191 u192 u193 u194 u195 u196 u197 u198 u199 u200 u201 u202 u203 u204 u205 u206 u207 u208 u209 u210 u211 u212 u213 u214 u215 u216 u217 u218 u219 u220 u221 u222 u223 u224 u225 u226 u227 u228 u229 u230 u231 u232 u233 u234 u235 u236 u237 u238 u239 u240 u241 u242 u243 u244 u245 u246 u247 u248 u249 u250 u251 u252 u253 u254 u255 u256 u257 u258 u259 u260 u261 u262 u263 u264 u265 u266 u267 u268 u269 : Value} {Q : Exit → Act → World → Prop} (m bv b0 N bp : Nat) (par : Nat → List Nat) (pv : Nat → Value) (mk : Nat → Int) (w0 : World) (hm : m ≤ 64) (hN : N ≤ bp)
    (hg : Graph w0 m bv b0 N par pv mk) (hp : w0.rowIs bp 23 m (fun _ => .int .u64 0))
    (hQ : Hid (∀ (v22 v23 v115 v116 v117 v118 v119 v120 v121 v122 v123 v124 v125 v126 v127 : Value) (w' : World), w'.rowIs bp 23 m (fun i => .int .u64 (mk i)) → Touch (fun k => k = bp) w0 w' → Q (.exit 6) ⟨List.toArray (u0 :: u1 :: u2 :: u3 :: u4 :: u5 :: u6 :: u7 :: u8 :: u9 :: .slice (some ⟨bv, 0, none⟩) m m :: u11 :: u12 :: u13 :: u14 :: u15 :: u16 :: u17 :: u18 :: u19 :: u20 :: .slice (some ⟨bp, 0, none⟩) m m :: v22 :: v23 :: u24 :: u25 :: u26 :: u27 :: u28 :: u29 :: u30 :: u31 :: u32 :: u33 :: u34 :: u35 :: u36 :: u37 :: u38 :: u39 :: u40 :: u41 :: u42 :: u43 :: u44 :: u45 :: u46 :: u47 :: u48 :: u49 :: u50 :: u51 :: u52 :: u53 :: u54 :: u55 :: u56 :: u57 :: u58 :: u59 :: u60 :: u61 :: u62 :: u63 :: u64 :: u65 :: u66 :: u67 :: u68 :: u69 :: u70 :: u71 :: u72 :: u73 :: u74 :: u75 :: u76 :: u77 :: u78 :: u79 :: u80 :: u81 :: u82 :: u83 :: u84 :: u85 :: u86 :: u87 :: u88 :: u89 :: u90 :: u91 :: u92 :: u93 :: u94 :: u95 :: u96 :: u97 :: u98 :: u99 :: u100 :: u101 :: u102 :: u103 :: u104 :: u105 :: u106 :: u107 :: u108 :: u109 :: u110 :: u111 :: u112 :: .slice (some ⟨bv, 0, none⟩) m m :: .int .i64 m :: v115 :: v116 :: v117 :: v118 :: v119 :: v120 :: v121 :: v122 :: v123 :: v124 :: v125 :: v126 :: v127 :: u128 :: u129 :: u130 :: u131 :: u132 :: u133 :: u134 :: u135 :: u136 :: u137 :: u138 :: u139 :: u140 :: u141 :: u142 :: u143 :: u144 :: u145 :: u146 :: u147 :: u148 :: u149 :: u150 :: u151 :: u152 :: u153 :: u154 :: u155 :: u156 :: u157 :: u158 :: u159 :: u160 :: u161 :: u162 :: u163 :: u164 :: u165 :: u166 :: u167 :: u168 :: u169 :: u170 :: u171 :: u172 :: u173 :: u174 :: u175 :: u176 :: u177 :: u178 :: u179 :: u180 :: u181 :: u182 :: u183 :: u184 :: u185 :: u186 :: u187 :: u188 :: u189 :: u190 :: u191 :: u192 :: u193 :: u194 :: u195 :: u196 :: u197 :: u198 :: u199 :: u200 :: u201 :: u202 :: u203 :: u204 :: u205 :: u206 :: u207 :: u208 :: u209 :: u210 :: u211 :: u212 :: u213 :: u214 :: u215 :: u216 :: u217 :: u218 :: u219 :: u220 :: u221 :: u222 :: u223 :: u224 :: u225 :: u226 :: u227 :: u228 :: u229 :: u230 :: u231 :: u232 :: u233 :: u234 :: u235 :: u236 :: u237 :: u238 :: u239 :: u240 :: u241 :: u242 :: u243 :: u244 :: u245 :: u246 :: u247 :: u248 :: u249 :: u250 :: u251 :: u252 :: u253 :: u254 :: u255 :: u256 :: u257 :: u258 :: u259 :: u260 :: u261 :: u262 :: u263 :: u264 :: u265 :: u266 :: u267 :: u268 :: u269 :: []), []⟩ w')) :
    Code.wp Yba.prog (loopAt 3 (Yba.f3.body.getD .skip)) Q ⟨List.toArray (u0 :: u1 :: u2 :: u3 :: u4 :: u5 :: u6 :: u7 :: u8 :: u9 :: .slice (some ⟨bv, 0, none⟩) m m :: u11 :: u12 :: u13 :: u14 :: u15 :: u16 :: u17 :: u18 :: u19 :: u20 :: .slice (some ⟨bp, 0, none⟩) m m :: u22 :: u23 :: u24 :: u25 :: u26 :: u27 :: u28 :: u29 :: u30 :: u31 :: u32 :: u33 :: u34 :: u35 :: u36 :: u37 :: u38 :: u39 :: u40 :: u41 :: u42 :: u43 :: u44 :: u45 :: u46 :: u47 :: u48 :: u49 :: u50 :: u51 :: u52 :: u53 :: u54 :: u55 :: u56 :: u57 :: u58 :: u59 :: u60 :: u61 :: u62 :: u63 :: u64 :: u65 :: u66 :: u67 :: u68 :: u69 :: u70 :: u71 :: u72 :: u73 :: u74 :: u75 :: u76 :: u77 :: u78 :: u79 :: u80 :: u81 :: u82 :: u83 :: u84 :: u85 :: u86 :: u87 :: u88 :: u89 :: u90 :: u91 :: u92 :: u93 :: u94 :: u95 :: u96 :: u97 :: u98 :: u99 :: u100 :: u101 :: u102 :: u103 :: u104 :: u105 :: u106 :: u107 :: u108 :: u109 :: u110 :: u111 :: u112 :: .slice (some ⟨bv, 0, none⟩) m m :: .int .i64 m :: .int .i64 0 :: u116 :: u117 :: u118 :: u119 :: u120 :: u121 :: u122 :: u123 :: u124 :: u125 :: u126 :: u127 :: u128 :: u129 :: u130 :: u131 :: u132 :: u133 :: u134 :: u135 :: u136 :: u137 :: u138 :: u139 :: u140 :: u141 :: u142 :: u143 :: u144 :: u145 :: u146 :: u147 :: u148 :: u149 :: u150 :: u151 :: u152 :: u153 :: u154 :: u155 :: u156 :: u157 :: u158 :: u159 :: u160 :: u161 :: u162 :: u163 :: u164 :: u165 :: u166 :: u167 :: u168 :: u169 :: u170 :: u171 :: u172 :: u173 :: u174 :: u175 :: u176 :: u177 :: u178 :: u179 :: u180 :: u181 :: u182 :: u183 :: u184 :: u185 :: u186 :: u187 :: u188 :: u189 :: u190 :: u191 :: u192 :: u193 :: u194 :: u195 :: u196 :: u197 :: u198 :: u199 :: u200 :: u201 :: u202 :: u203 :: u204 :: u205 :: u206 :: u207 :: u208 :: u209 :: u210 :: u211 :: u212 :: u213 :: u214 :: u215 :: u216 :: u217 :: u218 :: u219 :: u220 :: u221 :: u222 :: u223 :: u224 :: u225 :: u226 :: u227 :: u228 :: u229 :: u230 :: u231 :: u232 :: u233 :: u234 :: u235 :: u236 :: u237 :: u238 :: u239 :: u240 :: u241 :: u242 :: u243 :: u244 :: u245 :: u246 :: u247 :: u248 :: u249 :: u250 :: u251 :: u252 :: u253 :: u254 :: u255 :: u256 :: u257 :: u258 :: u259 :: u260 :: u261 :: u262 :: u263 :: u264 :: u265 :: u266 :: u267 :: u268 :: u269 :: []), []⟩ w0 := by
  have hbp : bp < w0.heap.size := hp.lt
  have htop := hg.top
  have hlo := hg.lo
  have HG : Hid (Graph w0 m bv b0 N par pv mk) := hg
  have HP : Hid (w0.rowIs bp 23 m (fun _ => .int .u64 0)) := hp
  clear hg hp
  conv => arg 2; whnf
  go_loopg [115] m (fun k c wr => ∃ j : Nat, k + j = m ∧ c = .int .i64 j ∧ wr.rowIs bp 23 m (fun i => .int .u64 (if i < j then mk i else 0)) ∧ Touch (fun k => k = bp) w0 wr)
  case atStart => exact ⟨0, rfl, rfl, HP.out, Touch.refl _ _⟩
  case round =>
    obtain ⟨j, hkj, rfl, hr, ht⟩ := hrel
    by_cases hj : j < m
    · have hG := HG.out.touch ht (fun k hk e => by omega)
      have c1 := hG.vs j hj
      unfold vptr at c1
      have c2 := hG.mark j hj
      have c3 := hr.cell hj
      have c4 := hr.frozen j
      have R1 := hr.set j (.int .u64 (mk j))
      have R2 := ht.setCell (p := ⟨bp, j, none⟩) (fun _ => rfl) (.int .u64 (mk j))
      have HR : Hid ((wr.setCell ⟨bp, j, none⟩ (.int .u64 (mk j))).rowIs bp 23 m (fun i => .int .u64 (if i < j + 1 then mk i else 0))) := R1.congr (fun i hi => by
        by_cases e : i = j
        · subst e; simp
        · by_cases e2 : i < j
          · simp [e, e2, show i < j + 1 by omega]
          · simp [e, e2, show ¬ i < j + 1 by omega])
      have HT : Hid (Touch (fun k => k = bp) w0 (wr.setCell ⟨bp, j, none⟩ (.int .u64 (mk j)))) := R2
      clear R1 R2 hr ht hG
      go_wp2
      go_roundg (m - (j + 1))
      case measure => omega
      case rel => exact ⟨j + 1, by omega, by go_num, HR.out, HT.out⟩
    · have HR : Hid (wr.rowIs bp 23 m (fun i => .int .u64 (mk i))) := hr.congr (fun i hi => by simp [show i < j by omega])
      have HT : Hid (Touch (fun k => k = bp) w0 wr) := ht
      clear hr ht
      go_wp2
      exact hQ.out _ _ _ _ _ _ _ _ _ _ _ _ _ _ _ _ HR.out HT.out
end Go.Proofs.Ybulkbngq

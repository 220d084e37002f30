/-
  'snow.LawS3201AReach' (3), the sweeps. (The frames written out by program.)
-/
import Derived.Test.YbulkbngqMem
namespace Go.Proofs.Ybulkbngq
open Go.RowKit Plain
set_option linter.unusedVariables false

def bools (T : Nat → Bool) (i : Nat) : Value := .bool (T i)

set_option maxRecDepth 100000 in
set_option maxHeartbeats 1000000 in
/-- 'for _, p := range vs[i].parents { reached[p.seq] = true }' -/
theorem loop7 {u0 u1 u2 u3 u4 u5 u6 u7 u8 u9 u10 u11 u12 u13 u14 u15 u16 u17 u18 u19 u20 u21 u22 u23 u24 u26 u27 u28 u29 u30 u31 u32 u33 u34 u35 u36 u37 u38 u39 u40 u41 u42 u43 u44 u45 u46 u47 u48 u49 u50 u51 u52 u53 u54 u55 u56 u57 u58 u59 u60 u61 u62 u63 u64 u65 u66 u67 u68 u69 u70 u71 u72 u73 u74 u75 u76 u77 u78 u79 u80 u81 u82 u83 u84 u85 u86 u87 u88 u89 u90 u91 u92 u93 u94 u95 u96 u97 u98 u99 u100 u101 u102 u103 u104 u105 u106 u107 u108 u109 u110 u111 u112 u113 u114 u115 u116 u117 u118 u119 u120 u121 u122 u123 u124 u125 u126 u127 u128 u129 u130 u131 u132 u133 u134 u135 u136 u137 u138 u139 u140 u141 u142 u143 u144 u145 u146 u147 u148 u149 u150 u151 u152 u153 u154 u155 u156 u157 u158 u159 u160 u161 u162 u163 u164 u168 u169 u170 u171 u172 u173 u174 u175 u176 u177 u178 u179 u180 u181 u182 u183 u184 u185 u186 u187 u188 u189 u190 u191 u192 u193 u194 u195 u196 u197 u198 u199 u200 u201 u202 u203 u204 u205 u206 u207 u208 u209 u210 u211 u212 u213 u214 u215 u216 u217 u218 u219 u220 u221 u222 u223 u224 u225 u226 u227 u228 u229 u230 u231 u232 u233 u234 u235 u236 u237 u238 u239 u240 u241 u242 u243 u244 u245 u246 u247 u248 u249 u250 u251 u252 u253 u254 u255 u256 u257 u258 u259 u260 u261 u262 u263 u264 u265 u266 u267 u268 u269 : Value} {Q : Exit → Act → World → Prop} (m bv b0 N br st i : Nat) (c : Nat → Bool) (par : Nat → List Nat) (pv : Nat → Value) (mk : Nat → Int) (ao : Option Addr) (pc : Nat) (T0 T : Nat → Bool) (w0 : World) (hm : m ≤ 64) (hN : N ≤ br)
    (hg : Graph w0 m bv b0 N par pv mk) (hp : w0.rowIs br 4 m (bools T)) (him : i < m) (hpv : pv i = .slice ao (par i).length pc) (hlen : (par i).length ≤ 2000) (hI : PInv m st c par i 0 T0 T)
    (hQ : Hid (∀ (v29 v167 v168 v169 v170 v171 v172 v173 v174 v175 v176 v177 : Value) (w' : World) (T' : Nat → Bool), w'.rowIs br 4 m (bools T') → SInv m st c par (i + 1) T0 T' → Touch (fun k => k = br) w0 w' → Q (.exit 12) ⟨List.toArray (u0 :: u1 :: u2 :: u3 :: u4 :: u5 :: u6 :: u7 :: u8 :: u9 :: u10 :: u11 :: u12 :: u13 :: u14 :: u15 :: u16 :: u17 :: u18 :: u19 :: u20 :: u21 :: u22 :: u23 :: u24 :: .slice (some ⟨br, 0, none⟩) m m :: u26 :: u27 :: u28 :: v29 :: u30 :: u31 :: u32 :: u33 :: u34 :: u35 :: u36 :: u37 :: u38 :: u39 :: u40 :: u41 :: u42 :: u43 :: u44 :: u45 :: u46 :: u47 :: u48 :: u49 :: u50 :: u51 :: u52 :: u53 :: u54 :: u55 :: u56 :: u57 :: u58 :: u59 :: u60 :: u61 :: u62 :: u63 :: u64 :: u65 :: u66 :: u67 :: u68 :: u69 :: u70 :: u71 :: u72 :: u73 :: u74 :: u75 :: u76 :: u77 :: u78 :: u79 :: u80 :: u81 :: u82 :: u83 :: u84 :: u85 :: u86 :: u87 :: u88 :: u89 :: u90 :: u91 :: u92 :: u93 :: u94 :: u95 :: u96 :: u97 :: u98 :: u99 :: u100 :: u101 :: u102 :: u103 :: u104 :: u105 :: u106 :: u107 :: u108 :: u109 :: u110 :: u111 :: u112 :: u113 :: u114 :: u115 :: u116 :: u117 :: u118 :: u119 :: u120 :: u121 :: u122 :: u123 :: u124 :: u125 :: u126 :: u127 :: u128 :: u129 :: u130 :: u131 :: u132 :: u133 :: u134 :: u135 :: u136 :: u137 :: u138 :: u139 :: u140 :: u141 :: u142 :: u143 :: u144 :: u145 :: u146 :: u147 :: u148 :: u149 :: u150 :: u151 :: u152 :: u153 :: u154 :: u155 :: u156 :: u157 :: u158 :: u159 :: u160 :: u161 :: u162 :: u163 :: u164 :: .slice ao (par i).length pc :: .int .i64 ((par i).length : Nat) :: v167 :: v168 :: v169 :: v170 :: v171 :: v172 :: v173 :: v174 :: v175 :: v176 :: v177 :: u178 :: u179 :: u180 :: u181 :: u182 :: u183 :: u184 :: u185 :: u186 :: u187 :: u188 :: u189 :: u190 :: u191 :: u192 :: u193 :: u194 :: u195 :: u196 :: u197 :: u198 :: u199 :: u200 :: u201 :: u202 :: u203 :: u204 :: u205 :: u206 :: u207 :: u208 :: u209 :: u210 :: u211 :: u212 :: u213 :: u214 :: u215 :: u216 :: u217 :: u218 :: u219 :: u220 :: u221 :: u222 :: u223 :: u224 :: u225 :: u226 :: u227 :: u228 :: u229 :: u230 :: u231 :: u232 :: u233 :: u234 :: u235 :: u236 :: u237 :: u238 :: u239 :: u240 :: u241 :: u242 :: u243 :: u244 :: u245 :: u246 :: u247 :: u248 :: u249 :: u250 :: u251 :: u252 :: u253 :: u254 :: u255 :: u256 :: u257 :: u258 :: u259 :: u260 :: u261 :: u262 :: u263 :: u264 :: u265 :: u266 :: u267 :: u268 :: u269 :: []), []⟩ w')) :
    Code.wp Yba.prog (loopAt 6 (Yba.f3.body.getD .skip)) Q ⟨List.toArray (u0 :: u1 :: u2 :: u3 :: u4 :: u5 :: u6 :: u7 :: u8 :: u9 :: u10 :: u11 :: u12 :: u13 :: u14 :: u15 :: u16 :: u17 :: u18 :: u19 :: u20 :: u21 :: u22 :: u23 :: u24 :: .slice (some ⟨br, 0, none⟩) m m :: u26 :: u27 :: u28 :: u29 :: u30 :: u31 :: u32 :: u33 :: u34 :: u35 :: u36 :: u37 :: u38 :: u39 :: u40 :: u41 :: u42 :: u43 :: u44 :: u45 :: u46 :: u47 :: u48 :: u49 :: u50 :: u51 :: u52 :: u53 :: u54 :: u55 :: u56 :: u57 :: u58 :: u59 :: u60 :: u61 :: u62 :: u63 :: u64 :: u65 :: u66 :: u67 :: u68 :: u69 :: u70 :: u71 :: u72 :: u73 :: u74 :: u75 :: u76 :: u77 :: u78 :: u79 :: u80 :: u81 :: u82 :: u83 :: u84 :: u85 :: u86 :: u87 :: u88 :: u89 :: u90 :: u91 :: u92 :: u93 :: u94 :: u95 :: u96 :: u97 :: u98 :: u99 :: u100 :: u101 :: u102 :: u103 :: u104 :: u105 :: u106 :: u107 :: u108 :: u109 :: u110 :: u111 :: u112 :: u113 :: u114 :: u115 :: u116 :: u117 :: u118 :: u119 :: u120 :: u121 :: u122 :: u123 :: u124 :: u125 :: u126 :: u127 :: u128 :: u129 :: u130 :: u131 :: u132 :: u133 :: u134 :: u135 :: u136 :: u137 :: u138 :: u139 :: u140 :: u141 :: u142 :: u143 :: u144 :: u145 :: u146 :: u147 :: u148 :: u149 :: u150 :: u151 :: u152 :: u153 :: u154 :: u155 :: u156 :: u157 :: u158 :: u159 :: u160 :: u161 :: u162 :: u163 :: u164 :: .slice ao (par i).length pc :: .int .i64 ((par i).length : Nat) :: .int .i64 0 :: u168 :: u169 :: u170 :: u171 :: u172 :: u173 :: u174 :: u175 :: u176 :: u177 :: u178 :: u179 :: u180 :: u181 :: u182 :: u183 :: u184 :: u185 :: u186 :: u187 :: u188 :: u189 :: u190 :: u191 :: u192 :: u193 :: u194 :: u195 :: u196 :: u197 :: u198 :: u199 :: u200 :: u201 :: u202 :: u203 :: u204 :: u205 :: u206 :: u207 :: u208 :: u209 :: u210 :: u211 :: u212 :: u213 :: u214 :: u215 :: u216 :: u217 :: u218 :: u219 :: u220 :: u221 :: u222 :: u223 :: u224 :: u225 :: u226 :: u227 :: u228 :: u229 :: u230 :: u231 :: u232 :: u233 :: u234 :: u235 :: u236 :: u237 :: u238 :: u239 :: u240 :: u241 :: u242 :: u243 :: u244 :: u245 :: u246 :: u247 :: u248 :: u249 :: u250 :: u251 :: u252 :: u253 :: u254 :: u255 :: u256 :: u257 :: u258 :: u259 :: u260 :: u261 :: u262 :: u263 :: u264 :: u265 :: u266 :: u267 :: u268 :: u269 :: []), []⟩ w0 := by
  have hbr : br < w0.heap.size := hp.lt
  have htop := hg.top
  have hlo := hg.lo
  have HG : Hid (Graph w0 m bv b0 N par pv mk) := hg
  have HP : Hid (w0.rowIs br 4 m (bools T)) := hp
  have HV : Hid (pv i = .slice ao (par i).length pc) := hpv
  clear hg hp hpv
  conv => arg 2; whnf
  go_loopg [167] (par i).length (fun k cc wr => ∃ (j : Nat) (T' : Nat → Bool), k + j = (par i).length ∧ cc = .int .i64 j ∧ PInv m st c par i j T0 T' ∧ wr.rowIs br 4 m (bools T') ∧ Touch (fun k => k = br) w0 wr)
  case atStart => exact ⟨0, T, rfl, rfl, hI, HP.out, Touch.refl _ _⟩
  case round =>
    clear hI HP
    obtain ⟨j, T', hkj, rfl, hI, hr, ht⟩ := hrel
    by_cases hj : j < (par i).length
    · have hG := HG.out.touch ht (fun k hk e => by omega)
      obtain ⟨p, hp⟩ : ∃ p, p = (par i)[j] := ⟨_, rfl⟩
      obtain ⟨q, hq, c1⟩ := hG.parent him HV.out j hj
      rw [← hp] at c1
      unfold vptr at c1
      have hpm : p < m := by rw [hp]; exact hG.lt i him _ (List.getElem_mem hj)
      have c2 := hG.seq p hpm
      have c3 := hr.cell hpm
      have c4 := hr.frozen p
      have R0 := hI.step hj (by rw [← hp]; exact hpm)
      rw [← hp] at R0
      have HI : Hid (PInv m st c par i (j + 1) T0 (fun x => if x = p then true else T' x)) := R0
      have R1 := hr.set p (.bool true)
      have HR : Hid ((wr.setCell ⟨br, p, none⟩ (.bool true)).rowIs br 4 m (bools (fun x => if x = p then true else T' x))) := R1.congr (fun x hx => by
        unfold bools
        by_cases e : x = p
        · simp [e]
        · simp [e])
      have HT : Hid (Touch (fun k => k = br) w0 (wr.setCell ⟨br, p, none⟩ (.bool true))) := ht.setCell (p := ⟨br, p, none⟩) (fun _ => rfl) (.bool true)
      clear R0 R1 hr ht hG hI hp
      subst hq
      go_wp2
      go_roundg ((par i).length - (j + 1))
      case measure => omega
      case rel => exact ⟨j + 1, _, by omega, by go_num, HI.out, HR.out, HT.out⟩
    · have HI : Hid (SInv m st c par (i + 1) T0 T') := hI.done (by omega)
      have HR : Hid (wr.rowIs br 4 m (bools T')) := hr
      have HT : Hid (Touch (fun k => k = br) w0 wr) := ht
      clear hr ht hI
      go_wp2
      exact hQ.out _ _ _ _ _ _ _ _ _ _ _ _ _ _ HR.out HI.out HT.out

set_option maxRecDepth 100000 in
set_option maxHeartbeats 2000000 in
/-- One sweep. -/
theorem loop6 {u0 u1 u2 u3 u4 u5 u6 u7 u8 u11 u12 u13 u14 u15 u16 u18 u19 u20 u21 u22 u23 u24 u26 u28 u29 u30 u31 u32 u33 u34 u35 u36 u37 u38 u39 u40 u41 u42 u43 u44 u45 u46 u47 u48 u49 u50 u51 u52 u53 u54 u55 u56 u57 u58 u59 u60 u61 u62 u63 u64 u65 u66 u67 u68 u69 u70 u71 u72 u73 u74 u75 u76 u77 u78 u79 u80 u81 u82 u83 u84 u85 u86 u87 u88 u89 u90 u91 u92 u93 u94 u95 u96 u97 u98 u99 u100 u101 u102 u103 u104 u105 u106 u107 u108 u109 u110 u111 u112 u113 u114 u115 u116 u117 u118 u119 u120 u121 u122 u123 u124 u125 u126 u127 u128 u129 u130 u131 u132 u133 u134 u135 u136 u137 u138 u139 u140 u141 u142 u143 u144 u145 u146 u147 u148 u149 u150 u151 u152 u153 u154 u155 u156 u157 u158 u159 u160 u161 u162 u163 u164 u165 u166 u167 u168 u169 u170 u171 u172 u173 u174 u175 u176 u177 u178 u179 u180 u181 u182 u183 u184 u185 u186 u187 u188 u189 u190 u191 u192 u193 u194 u195 u196 u197 u198 u199 u200 u201 u202 u203 u204 u205 u206 u207 u208 u209 u210 u211 u212 u213 u214 u215 u216 u217 u218 u219 u220 u221 u222 u223 u224 u225 u226 u227 u228 u229 u230 u231 u232 u233 u234 u235 u236 u237 u238 u239 u240 u241 u242 u243 u244 u245 u246 u247 u248 u249 u250 u251 u252 u253 u254 u255 u256 u257 u258 u259 u260 u261 u262 u263 u264 u265 u266 u267 u268 u269 : Value} {Q : Exit → Act → World → Prop} (m bv b0 N br bs bc st : Nat) (stop : Int) (par : Nat → List Nat) (pv : Nat → Value) (mk : Nat → Int) (T : Nat → Bool) (w0 : World) (hm : m ≤ 64) (hN : N ≤ br) (hbs : bs ≠ br) (hbc : bc ≠ br)
    (h0 : 0 ≤ stop) (h1 : stop ≤ 18446744073709551615) (hs : w0.cell? ⟨bs, 0, none⟩ = some (.int .u64 stop)) (hc : w0.cell? ⟨bc, 0, none⟩ = some (.func (.func 6) #[] #[.pointer (some ⟨bs, 0, none⟩)]))
    (hg : Graph w0 m bv b0 N par pv mk) (hlen : ∀ i, i < m → (par i).length ≤ 2000) (hp : w0.rowIs br 4 m (bools T)) (hI : SInv m st (contB stop) par 0 T T)
    (hQ : Hid (∀ (v27 v29 v145 v146 v147 v148 v149 v150 v151 v152 v153 v154 v155 v156 v157 v158 v159 v160 v161 v162 v163 v164 v165 v166 v167 v168 v169 v170 v171 v172 v173 v174 v175 v176 v177 : Value) (w' : World) (T' : Nat → Bool), w'.rowIs br 4 m (bools T') → SInv m st (contB stop) par m T T' → Touch (fun k => k = br) w0 w' → Q (.exit 10) ⟨List.toArray (u0 :: u1 :: u2 :: u3 :: u4 :: u5 :: u6 :: u7 :: u8 :: .int .i64 m :: .slice (some ⟨bv, 0, none⟩) m m :: u11 :: u12 :: u13 :: u14 :: u15 :: u16 :: .pointer (some ⟨bc, 0, none⟩) :: u18 :: u19 :: u20 :: u21 :: u22 :: u23 :: u24 :: .slice (some ⟨br, 0, none⟩) m m :: u26 :: v27 :: u28 :: v29 :: u30 :: u31 :: u32 :: u33 :: u34 :: u35 :: u36 :: u37 :: u38 :: u39 :: u40 :: u41 :: u42 :: u43 :: u44 :: u45 :: u46 :: u47 :: u48 :: u49 :: u50 :: u51 :: u52 :: u53 :: u54 :: u55 :: u56 :: u57 :: u58 :: u59 :: u60 :: u61 :: u62 :: u63 :: u64 :: u65 :: u66 :: u67 :: u68 :: u69 :: u70 :: u71 :: u72 :: u73 :: u74 :: u75 :: u76 :: u77 :: u78 :: u79 :: u80 :: u81 :: u82 :: u83 :: u84 :: u85 :: u86 :: u87 :: u88 :: u89 :: u90 :: u91 :: u92 :: u93 :: u94 :: u95 :: u96 :: u97 :: u98 :: u99 :: u100 :: u101 :: u102 :: u103 :: u104 :: u105 :: u106 :: u107 :: u108 :: u109 :: u110 :: u111 :: u112 :: u113 :: u114 :: u115 :: u116 :: u117 :: u118 :: u119 :: u120 :: u121 :: u122 :: u123 :: u124 :: u125 :: u126 :: u127 :: u128 :: u129 :: u130 :: u131 :: u132 :: u133 :: u134 :: u135 :: u136 :: u137 :: u138 :: u139 :: u140 :: u141 :: u142 :: u143 :: u144 :: v145 :: v146 :: v147 :: v148 :: v149 :: v150 :: v151 :: v152 :: v153 :: v154 :: v155 :: v156 :: v157 :: v158 :: v159 :: v160 :: v161 :: v162 :: v163 :: v164 :: v165 :: v166 :: v167 :: v168 :: v169 :: v170 :: v171 :: v172 :: v173 :: v174 :: v175 :: v176 :: v177 :: u178 :: u179 :: u180 :: u181 :: u182 :: u183 :: u184 :: u185 :: u186 :: u187 :: u188 :: u189 :: u190 :: u191 :: u192 :: u193 :: u194 :: u195 :: u196 :: u197 :: u198 :: u199 :: u200 :: u201 :: u202 :: u203 :: u204 :: u205 :: u206 :: u207 :: u208 :: u209 :: u210 :: u211 :: u212 :: u213 :: u214 :: u215 :: u216 :: u217 :: u218 :: u219 :: u220 :: u221 :: u222 :: u223 :: u224 :: u225 :: u226 :: u227 :: u228 :: u229 :: u230 :: u231 :: u232 :: u233 :: u234 :: u235 :: u236 :: u237 :: u238 :: u239 :: u240 :: u241 :: u242 :: u243 :: u244 :: u245 :: u246 :: u247 :: u248 :: u249 :: u250 :: u251 :: u252 :: u253 :: u254 :: u255 :: u256 :: u257 :: u258 :: u259 :: u260 :: u261 :: u262 :: u263 :: u264 :: u265 :: u266 :: u267 :: u268 :: u269 :: []), []⟩ w')) :
    Code.wp Yba.prog (loopAt 5 (Yba.f3.body.getD .skip)) Q ⟨List.toArray (u0 :: u1 :: u2 :: u3 :: u4 :: u5 :: u6 :: u7 :: u8 :: .int .i64 m :: .slice (some ⟨bv, 0, none⟩) m m :: u11 :: u12 :: u13 :: u14 :: u15 :: u16 :: .pointer (some ⟨bc, 0, none⟩) :: u18 :: u19 :: u20 :: u21 :: u22 :: u23 :: u24 :: .slice (some ⟨br, 0, none⟩) m m :: u26 :: .int .i64 0 :: u28 :: u29 :: u30 :: u31 :: u32 :: u33 :: u34 :: u35 :: u36 :: u37 :: u38 :: u39 :: u40 :: u41 :: u42 :: u43 :: u44 :: u45 :: u46 :: u47 :: u48 :: u49 :: u50 :: u51 :: u52 :: u53 :: u54 :: u55 :: u56 :: u57 :: u58 :: u59 :: u60 :: u61 :: u62 :: u63 :: u64 :: u65 :: u66 :: u67 :: u68 :: u69 :: u70 :: u71 :: u72 :: u73 :: u74 :: u75 :: u76 :: u77 :: u78 :: u79 :: u80 :: u81 :: u82 :: u83 :: u84 :: u85 :: u86 :: u87 :: u88 :: u89 :: u90 :: u91 :: u92 :: u93 :: u94 :: u95 :: u96 :: u97 :: u98 :: u99 :: u100 :: u101 :: u102 :: u103 :: u104 :: u105 :: u106 :: u107 :: u108 :: u109 :: u110 :: u111 :: u112 :: u113 :: u114 :: u115 :: u116 :: u117 :: u118 :: u119 :: u120 :: u121 :: u122 :: u123 :: u124 :: u125 :: u126 :: u127 :: u128 :: u129 :: u130 :: u131 :: u132 :: u133 :: u134 :: u135 :: u136 :: u137 :: u138 :: u139 :: u140 :: u141 :: u142 :: u143 :: u144 :: u145 :: u146 :: u147 :: u148 :: u149 :: u150 :: u151 :: u152 :: u153 :: u154 :: u155 :: u156 :: u157 :: u158 :: u159 :: u160 :: u161 :: u162 :: u163 :: u164 :: u165 :: u166 :: u167 :: u168 :: u169 :: u170 :: u171 :: u172 :: u173 :: u174 :: u175 :: u176 :: u177 :: u178 :: u179 :: u180 :: u181 :: u182 :: u183 :: u184 :: u185 :: u186 :: u187 :: u188 :: u189 :: u190 :: u191 :: u192 :: u193 :: u194 :: u195 :: u196 :: u197 :: u198 :: u199 :: u200 :: u201 :: u202 :: u203 :: u204 :: u205 :: u206 :: u207 :: u208 :: u209 :: u210 :: u211 :: u212 :: u213 :: u214 :: u215 :: u216 :: u217 :: u218 :: u219 :: u220 :: u221 :: u222 :: u223 :: u224 :: u225 :: u226 :: u227 :: u228 :: u229 :: u230 :: u231 :: u232 :: u233 :: u234 :: u235 :: u236 :: u237 :: u238 :: u239 :: u240 :: u241 :: u242 :: u243 :: u244 :: u245 :: u246 :: u247 :: u248 :: u249 :: u250 :: u251 :: u252 :: u253 :: u254 :: u255 :: u256 :: u257 :: u258 :: u259 :: u260 :: u261 :: u262 :: u263 :: u264 :: u265 :: u266 :: u267 :: u268 :: u269 :: []), []⟩ w0 := by
  have hbr : br < w0.heap.size := hp.lt
  have htop := hg.top
  have hlo := hg.lo
  have HG : Hid (Graph w0 m bv b0 N par pv mk) := hg
  have HP : Hid (w0.rowIs br 4 m (bools T)) := hp
  have HS : Hid (w0.cell? ⟨bs, 0, none⟩ = some (.int .u64 stop)) := hs
  have HC : Hid (w0.cell? ⟨bc, 0, none⟩ = some (.func (.func 6) #[] #[.pointer (some ⟨bs, 0, none⟩)])) := hc
  clear hg hp hs hc
  conv => arg 2; whnf
  go_loopg [27] m (fun k cc wr => ∃ (i : Nat) (T' : Nat → Bool), k + i = m ∧ cc = .int .i64 i ∧ SInv m st (contB stop) par i T T' ∧ wr.rowIs br 4 m (bools T') ∧ Touch (fun k => k = br) w0 wr)
  case atStart => exact ⟨0, T, rfl, rfl, hI, HP.out, Touch.refl _ _⟩
  case round =>
    clear hI HP
    obtain ⟨i, T', hki, rfl, hI, hr, ht⟩ := hrel
    by_cases hi : i < m
    · have hG := HG.out.touch ht (fun k hk e => by omega)
      have c1 := hr.cell hi
      unfold bools at c1
      have c2 := ht.cell HC.out hbc
      have c3 := ht.cell HS.out hbs
      have HR : Hid (wr.rowIs br 4 m (bools T')) := hr
      have HT : Hid (Touch (fun k => k = br) w0 wr) := ht
      clear hr ht
      cases hTi : T' i
      · rw [hTi] at c1
        have HI : Hid (SInv m st (contB stop) par (i + 1) T T') := hI.pass (.inl hTi)
        clear hI hG
        go_wp2
        go_roundg (m - (i + 1))
        case measure => omega
        case rel => exact ⟨i + 1, _, by omega, by go_num, HI.out, HR.out, HT.out⟩
      · rw [hTi] at c1
        cases hci : contB stop i
        · have HI : Hid (SInv m st (contB stop) par (i + 1) T T') := hI.pass (.inr hci)
          clear hI hG
          go_wp2_with (go_at_call 6; refine (cont_any i (by omega) stop bs _ h0 h1 (by assumption)).mono ?_; rintro e w' ⟨rfl, rfl⟩)
          go_roundg (m - (i + 1))
          case measure => omega
          case rel => exact ⟨i + 1, _, by omega, by go_num, HI.out, HR.out, HT.out⟩
        · have HI : Hid (PInv m st (contB stop) par i 0 T T') := hI.enter hTi hci
          have c4 := hG.vs i hi
          unfold vptr at c4
          obtain ⟨ao, pc, hpv⟩ := hG.shape hi
          have c5 := (hG.pars i hi).1
          rw [hpv] at c5
          have hl := hlen i hi
          have HG2 : Hid (Graph wr m bv b0 N par pv mk) := hG
          have HV : Hid (pv i = .slice ao (par i).length pc) := hpv
          clear hI hG hpv
          go_wp2_with (go_at_call 6; refine (cont_any i (by omega) stop bs _ h0 h1 (by assumption)).mono ?_; rintro e w' ⟨rfl, rfl⟩)
          refine loop7 m bv b0 N br st i (contB stop) par pv mk ao pc T T' _ hm hN HG2.out HR.out hi HV.out hl HI.out ?_
          clear c1 c2 c3 c4 c5 HG2 HR HV HI hTi hci
          intro v29 v167 v168 v169 v170 v171 v172 v173 v174 v175 v176 v177 w2 T2 hr2 hI2 ht2
          have HR2 : Hid (w2.rowIs br 4 m (bools T2)) := hr2
          have HT2 : Hid (Touch (fun k => k = br) w0 w2) := HT.out.trans ht2
          clear hr2 ht2 HT
          go_wp2
          go_roundg (m - (i + 1))
          case measure => omega
          case rel => exact ⟨i + 1, _, by omega, by go_num, hI2, HR2.out, HT2.out⟩
    · obtain rfl : i = m := by
        omega
      have HR : Hid (wr.rowIs br 4 i (bools T')) := hr
      have HT : Hid (Touch (fun k => k = br) w0 wr) := ht
      clear hr ht
      go_wp2
      exact hQ.out _ _ _ _ _ _ _ _ _ _ _ _ _ _ _ _ _ _ _ _ _ _ _ _ _ _ _ _ _ _ _ _ _ _ _ _ _ HR.out hI HT.out

end Go.Proofs.Ybulkbngq

/-
  'snow.LawS3201AReach' (3), the loop that makes the vertices. (The frame written out by program.)
-/
import Derived.Test.YbulkbngqBuilt
namespace Go.Proofs.Ybulkbngq
open Go.RowKit Plain
set_option linter.unusedVariables false

set_option maxRecDepth 100000 in
set_option maxHeartbeats 2000000 in
theorem loop1 {u0 u1 u2 u3 u4 u5 u6 u7 u8 u9 u11 u12 u13 u14 u15 u16 u17 u18 u19 u20 u21 u22 u23 u24 u25 u26 u27 u28 u29 u30 u31 u32 u33 u34 u35 u36 u37 u38 u39 u40 u41 u42 u43 u44 u45 u46 u47 u48 u49 u52 u53 u54 u55 u56 u57 u58 u59 u60 u61 u62 u63 u64 u65 u66 u67 u68 u69 u70 u71 u72 u73 u74 u75 u76 u77 u78 u79 u80 u81 u82 u83 u84 u85 u86 u87 u88 u89 u90 u91 u92 u93 u94 u95 u96 u97 u98 u99 u100 u101 u102 u103 u104 u105 u106 u107 u108 u109 u110 u111 u112 u113 u114 u115 u116 u117 u118 u119 u120 u121 u122 u123 u124 u125 u126 u127 u128 u129 u130 u131 u132 u133 u134 u135 u136 u137 u138 u139 u140 u141 u142 u143 u144 u145 u146 u147 u148 u149 u150 u151 u152 u153 u154 u155 u156 u157 u158 u159 u160 u161 u162 u163 u164 u165 u166 u167 u168 u169 u170 u171 u172 u173 u174 u175 u176 u177 u178 u179 u180 u181 u182 u183 u184 u185 u186 u187 u188 u189 u190 u191 u192 u193 u194 u195 u196 u197 u198 u199 u200 u201 u202 u203 u204 u205 u206 u207 u208 u209 u210 u211 u212 u213 u214 u215 u216 u217 u218 u219 u220 u221 u222 u223 u224 u225 u226 u227 u228 u229 u230 u231 u232 u233 u234 u235 u236 u237 u238 u239 u240 u241 u242 u243 u244 u245 u246 u247 u248 u249 u250 u251 u252 u253 u254 u255 u256 u257 u258 u259 u260 u261 u262 u263 u264 u265 u266 u267 u268 u269 : Value} {Q : Exit → Act → World → Prop} (m bv b0 : Nat) (w0 : World) (hm : m ≤ 64) (hbv : bv < b0) (hsz : w0.heap.size = b0) (hp : w0.rowIs bv 26 m (fun _ => .pointer none))
    (hQ : Hid (∀ (v11 v51 v52 v53 v54 v55 v56 v57 v58 v59 v60 : Value) (w' : World), Built w' m bv b0 (fun _ => []) (fun _ => .slice none 0 0) → Touch (fun k => k = bv) w0 w' → Q (.exit 0) ⟨List.toArray (u0 :: u1 :: u2 :: u3 :: u4 :: u5 :: u6 :: u7 :: u8 :: u9 :: .slice (some ⟨bv, 0, none⟩) m m :: v11 :: u12 :: u13 :: u14 :: u15 :: u16 :: u17 :: u18 :: u19 :: u20 :: u21 :: u22 :: u23 :: u24 :: u25 :: u26 :: u27 :: u28 :: u29 :: u30 :: u31 :: u32 :: u33 :: u34 :: u35 :: u36 :: u37 :: u38 :: u39 :: u40 :: u41 :: u42 :: u43 :: u44 :: u45 :: u46 :: u47 :: u48 :: u49 :: .int .i64 m :: v51 :: v52 :: v53 :: v54 :: v55 :: v56 :: v57 :: v58 :: v59 :: v60 :: u61 :: u62 :: u63 :: u64 :: u65 :: u66 :: u67 :: u68 :: u69 :: u70 :: u71 :: u72 :: u73 :: u74 :: u75 :: u76 :: u77 :: u78 :: u79 :: u80 :: u81 :: u82 :: u83 :: u84 :: u85 :: u86 :: u87 :: u88 :: u89 :: u90 :: u91 :: u92 :: u93 :: u94 :: u95 :: u96 :: u97 :: u98 :: u99 :: u100 :: u101 :: u102 :: u103 :: u104 :: u105 :: u106 :: u107 :: u108 :: u109 :: u110 :: u111 :: u112 :: u113 :: u114 :: u115 :: u116 :: u117 :: u118 :: u119 :: u120 :: u121 :: u122 :: u123 :: u124 :: u125 :: u126 :: u127 :: u128 :: u129 :: u130 :: u131 :: u132 :: u133 :: u134 :: u135 :: u136 :: u137 :: u138 :: u139 :: u140 :: u141 :: u142 :: u143 :: u144 :: u145 :: u146 :: u147 :: u148 :: u149 :: u150 :: u151 :: u152 :: u153 :: u154 :: u155 :: u156 :: u157 :: u158 :: u159 :: u160 :: u161 :: u162 :: u163 :: u164 :: u165 :: u166 :: u167 :: u168 :: u169 :: u170 :: u171 :: u172 :: u173 :: u174 :: u175 :: u176 :: u177 :: u178 :: u179 :: u180 :: u181 :: u182 :: u183 :: u184 :: u185 :: u186 :: u187 :: u188 :: u189 :: u190 :: u191 :: u192 :: u193 :: u194 :: u195 :: u196 :: u197 :: u198 :: u199 :: u200 :: u201 :: u202 :: u203 :: u204 :: u205 :: u206 :: u207 :: u208 :: u209 :: u210 :: u211 :: u212 :: u213 :: u214 :: u215 :: u216 :: u217 :: u218 :: u219 :: u220 :: u221 :: u222 :: u223 :: u224 :: u225 :: u226 :: u227 :: u228 :: u229 :: u230 :: u231 :: u232 :: u233 :: u234 :: u235 :: u236 :: u237 :: u238 :: u239 :: u240 :: u241 :: u242 :: u243 :: u244 :: u245 :: u246 :: u247 :: u248 :: u249 :: u250 :: u251 :: u252 :: u253 :: u254 :: u255 :: u256 :: u257 :: u258 :: u259 :: u260 :: u261 :: u262 :: u263 :: u264 :: u265 :: u266 :: u267 :: u268 :: u269 :: []), []⟩ w')) :
    Code.wp Yba.prog (loopAt 0 (Yba.f3.body.getD .skip)) Q ⟨List.toArray (u0 :: u1 :: u2 :: u3 :: u4 :: u5 :: u6 :: u7 :: u8 :: u9 :: .slice (some ⟨bv, 0, none⟩) m m :: u11 :: u12 :: u13 :: u14 :: u15 :: u16 :: u17 :: u18 :: u19 :: u20 :: u21 :: u22 :: u23 :: u24 :: u25 :: u26 :: u27 :: u28 :: u29 :: u30 :: u31 :: u32 :: u33 :: u34 :: u35 :: u36 :: u37 :: u38 :: u39 :: u40 :: u41 :: u42 :: u43 :: u44 :: u45 :: u46 :: u47 :: u48 :: u49 :: .int .i64 m :: .int .i64 0 :: u52 :: u53 :: u54 :: u55 :: u56 :: u57 :: u58 :: u59 :: u60 :: u61 :: u62 :: u63 :: u64 :: u65 :: u66 :: u67 :: u68 :: u69 :: u70 :: u71 :: u72 :: u73 :: u74 :: u75 :: u76 :: u77 :: u78 :: u79 :: u80 :: u81 :: u82 :: u83 :: u84 :: u85 :: u86 :: u87 :: u88 :: u89 :: u90 :: u91 :: u92 :: u93 :: u94 :: u95 :: u96 :: u97 :: u98 :: u99 :: u100 :: u101 :: u102 :: u103 :: u104 :: u105 :: u106 :: u107 :: u108 :: u109 :: u110 :: u111 :: u112 :: u113 :: u114 :: u115 :: u116 :: u117 :: u118 :: u119 :: u120 :: u121 :: u122 :: u123 :: u124 :: u125 :: u126 :: u127 :: u128 :: u129 :: u130 :: u131 :: u132 :: u133 :: u134 :: u135 :: u136 :: u137 :: u138 :: u139 :: u140 :: u141 :: u142 :: u143 :: u144 :: u145 :: u146 :: u147 :: u148 :: u149 :: u150 :: u151 :: u152 :: u153 :: u154 :: u155 :: u156 :: u157 :: u158 :: u159 :: u160 :: u161 :: u162 :: u163 :: u164 :: u165 :: u166 :: u167 :: u168 :: u169 :: u170 :: u171 :: u172 :: u173 :: u174 :: u175 :: u176 :: u177 :: u178 :: u179 :: u180 :: u181 :: u182 :: u183 :: u184 :: u185 :: u186 :: u187 :: u188 :: u189 :: u190 :: u191 :: u192 :: u193 :: u194 :: u195 :: u196 :: u197 :: u198 :: u199 :: u200 :: u201 :: u202 :: u203 :: u204 :: u205 :: u206 :: u207 :: u208 :: u209 :: u210 :: u211 :: u212 :: u213 :: u214 :: u215 :: u216 :: u217 :: u218 :: u219 :: u220 :: u221 :: u222 :: u223 :: u224 :: u225 :: u226 :: u227 :: u228 :: u229 :: u230 :: u231 :: u232 :: u233 :: u234 :: u235 :: u236 :: u237 :: u238 :: u239 :: u240 :: u241 :: u242 :: u243 :: u244 :: u245 :: u246 :: u247 :: u248 :: u249 :: u250 :: u251 :: u252 :: u253 :: u254 :: u255 :: u256 :: u257 :: u258 :: u259 :: u260 :: u261 :: u262 :: u263 :: u264 :: u265 :: u266 :: u267 :: u268 :: u269 :: []), []⟩ w0 := by
  have HP : Hid (w0.rowIs bv 26 m (fun _ => .pointer none)) := hp
  have HZ : Hid (w0.heap.size = b0) := hsz
  clear hp hsz
  conv => arg 2; whnf
  go_loopg [51] m (fun k cc wr => ∃ (i : Nat), k + i = m ∧ cc = .int .i64 i ∧ wr.rowIs bv 26 m (fun x => if x < i then vptr b0 x else .pointer none) ∧ (∀ x, x < i → wr.heap[b0 + x]? = some (.cells (vcells x) 36 (0, 0))) ∧ wr.heap.size = b0 + i ∧ Touch (fun k => k = bv) w0 wr)
  case atStart => exact ⟨0, rfl, rfl, HP.out, fun x hx => absurd hx (by omega), HZ.out, Touch.refl _ _⟩
  case round =>
    clear HP
    obtain ⟨i, hki, rfl, hr, hb, hsz, ht⟩ := hrel
    by_cases hi : i < m
    · have c1 := hr.cell hi
      simp only [Nat.lt_irrefl, if_false] at c1
      have c2 := hr.frozen i
      have hlt : bv < wr.heap.size := by omega
      have hlt2 : bv < b0 + i := by omega
      have R1 : ((wr.setCell ⟨bv, i, none⟩ (vptr b0 i)).alloc (.cells (vcells i) 36)).rowIs bv 26 m (fun x => if x < i + 1 then vptr b0 x else .pointer none) :=
        ((hr.set i (vptr b0 i)).alloc _).congr (fun x hx => by
          by_cases e : x = i
          · subst e; simp
          · by_cases e2 : x < i
            · simp [e, e2, show x < i + 1 by omega]
            · simp [e, e2, show ¬ x < i + 1 by omega])
      have R2 : ∀ x, x < i + 1 → ((wr.setCell ⟨bv, i, none⟩ (vptr b0 i)).alloc (.cells (vcells i) 36)).heap[b0 + x]? = some (.cells (vcells x) 36 (0, 0)) := by
        intro x hx
        by_cases e : x = i
        · subst e
          have := heap_alloc_new (wr.setCell ⟨bv, x, none⟩ (vptr b0 x)) (.cells (vcells x) 36)
          have e2 : (wr.setCell ⟨bv, x, none⟩ (vptr b0 x)).heap.size = b0 + x := by simp; exact hsz
          rw [e2] at this
          exact this
        · rw [Below.heap_alloc _ _ _ (by simp; omega), Below.heap_setCell _ _ _ _ (by simp; omega)]
          exact hb x (by omega)
      have R3 : Touch (fun k => k = bv) w0 ((wr.setCell ⟨bv, i, none⟩ (vptr b0 i)).alloc (.cells (vcells i) 36)) := (ht.setCell (fun _ => rfl) _).alloc _
      have R4 : ((wr.setCell ⟨bv, i, none⟩ (vptr b0 i)).alloc (.cells (vcells i) 36)).heap.size = b0 + (i + 1) := by simp; omega
      have HR : Hid (∀ w2, w2 = (wr.setCell ⟨bv, i, none⟩ (vptr b0 i)).alloc (.cells (vcells i) 36) → w2.rowIs bv 26 m (fun x => if x < i + 1 then vptr b0 x else .pointer none) ∧ (∀ x, x < i + 1 → w2.heap[b0 + x]? = some (.cells (vcells x) 36 (0, 0))) ∧ w2.heap.size = b0 + (i + 1) ∧ Touch (fun k => k = bv) w0 w2) := by
        rintro _ rfl
        exact ⟨R1, R2, R4, R3⟩
      have hz : wr.heap.size = b0 + i := hsz
      clear R1 R2 R3 R4 hr hb ht hsz
      go_wp2
      have hfin := HR.out _ rfl
      go_roundg (m - (i + 1))
      case measure => omega
      case rel => exact ⟨i + 1, by omega, by go_num, hfin.1, hfin.2.1, hfin.2.2.1, hfin.2.2.2⟩
    · obtain rfl : i = m := by omega
      have HB : Hid (Built wr i bv b0 (fun _ => []) (fun _ => .slice none 0 0)) := Built.start hbv hsz (fun x hx => by have := hr.cell hx; simp only [hx, if_true] at this; exact this) hb
      have HT : Hid (Touch (fun k => k = bv) w0 wr) := ht
      clear hr hb hsz ht
      go_wp2
      exact hQ.out _ _ _ _ _ _ _ _ _ _ _ _ HB.out HT.out

end Go.Proofs.Ybulkbngq

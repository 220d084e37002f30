/-
  'snow.LawS3201AReach' (3), the loop over the edges. (The frame written out by program.)
-/
import Derived.Test.YbulkbngqR2
import Derived.Laws.BitsAllLaws
namespace Go.Proofs.Ybulkbngq
open Go.RowKit Plain
set_option linter.unusedVariables false

theorem low_bits (e : Int) (h0 : 0 ≤ e) (h1 : e ≤ 65535) : 0 ≤ bits BinOp.and IntKind.u16 e 255 ∧ bits BinOp.and IntKind.u16 e 255 ≤ 255 := by
  rw [u16_and e 255 h0 (by omega) (by omega) (by omega)]
  have := Nat.and_le_right (n := e.toNat) (m := (255 : Int).toNat)
  have e2 : (255 : Int).toNat = 255 := rfl
  rw [e2] at this ⊢
  omega
theorem mod_nat (x m : Int) (h0 : 0 ≤ x) (hm : 0 < m) : ∃ a : Nat, x % m = (a : Int) ∧ (a : Int) < m := by
  obtain ⟨a, ha⟩ := Int.eq_ofNat_of_zero_le (Int.emod_nonneg x (by omega : m ≠ 0))
  exact ⟨a, ha, by rw [← ha]; exact Int.emod_lt_of_pos x hm⟩

set_option maxRecDepth 100000 in
set_option maxHeartbeats 2000000 in
theorem loop2 {u0 u1 u2 u3 u4 u5 u6 u7 u8 u11 u12 u13 u14 u15 u16 u17 u18 u19 u20 u21 u22 u23 u24 u25 u26 u27 u28 u29 u30 u31 u32 u33 u34 u35 u36 u37 u38 u39 u40 u41 u42 u43 u44 u45 u46 u47 u48 u49 u50 u51 u52 u53 u54 u55 u56 u57 u58 u59 u60 u64 u65 u66 u67 u68 u69 u70 u71 u72 u73 u74 u75 u76 u77 u78 u79 u80 u81 u82 u83 u84 u85 u86 u87 u88 u89 u90 u91 u92 u93 u94 u95 u96 u97 u98 u99 u100 u101 u102 u103 u104 u105 u106 u107 u108 u109 u110 u111 u112 u113 u114 u115 u116 u117 u118 u119 u120 u121 u122 u123 u124 u125 u126 u127 u128 u129 u130 u131 u132 u133 u134 u135 u136 u137 u138 u139 u140 u141 u142 u143 u144 u145 u146 u147 u148 u149 u150 u151 u152 u153 u154 u155 u156 u157 u158 u159 u160 u161 u162 u163 u164 u165 u166 u167 u168 u169 u170 u171 u172 u173 u174 u175 u176 u177 u178 u179 u180 u181 u182 u183 u184 u185 u186 u187 u188 u189 u190 u191 u192 u193 u194 u195 u196 u197 u198 u199 u200 u201 u202 u203 u204 u205 u206 u207 u208 u209 u210 u211 u212 u213 u214 u215 u216 u217 u218 u219 u220 u221 u222 u223 u224 u225 u226 u227 u228 u229 u230 u231 u232 u233 u234 u235 u236 u237 u238 u239 u240 u241 u242 u243 u244 u245 u246 u247 u248 u249 u250 u251 u252 u253 u254 u255 u256 u257 u258 u259 u260 u261 u262 u263 u264 u265 u266 u267 u268 u269 : Value} {Q : Exit → Act → World → Prop} (m bv b0 : Nat) (a1 : Option Addr) (len1 cap1 : Nat) (E : Nat → Int) (w0 : World) (hm : m ≤ 64) (hm0 : 0 < m) (hl : len1 ≤ 1024)
    (hE : ∀ j, 0 ≤ E j ∧ E j ≤ 65535) (hc : ∀ j, j < len1 → ∃ be oe, a1 = some ⟨be, oe, none⟩ ∧ be < b0 ∧ w0.cell? ⟨be, oe + j, none⟩ = some (.int .u16 (E j)))
    (hB : Built w0 m bv b0 (fun _ => []) (fun _ => .slice none 0 0))
    (hQ : Hid (∀ (v13 v14 v15 v63 v64 v65 v66 v67 v68 v69 v70 v71 v72 v73 v74 v75 v76 v77 v78 v79 v80 v81 v82 v83 v84 v85 v86 v87 v88 v89 v90 v91 v92 v93 v94 v95 v96 : Value) (w' : World) (par : Nat → List Nat) (pv : Nat → Value), Built w' m bv b0 par pv → (∀ i, (par i).length ≤ len1) → Touch (fun k => b0 ≤ k) w0 w' → Q (.exit 2) ⟨List.toArray (u0 :: u1 :: u2 :: u3 :: u4 :: u5 :: u6 :: u7 :: u8 :: .int .i64 m :: .slice (some ⟨bv, 0, none⟩) m m :: u11 :: u12 :: v13 :: v14 :: v15 :: u16 :: u17 :: u18 :: u19 :: u20 :: u21 :: u22 :: u23 :: u24 :: u25 :: u26 :: u27 :: u28 :: u29 :: u30 :: u31 :: u32 :: u33 :: u34 :: u35 :: u36 :: u37 :: u38 :: u39 :: u40 :: u41 :: u42 :: u43 :: u44 :: u45 :: u46 :: u47 :: u48 :: u49 :: u50 :: u51 :: u52 :: u53 :: u54 :: u55 :: u56 :: u57 :: u58 :: u59 :: u60 :: .slice a1 len1 cap1 :: .int .i64 len1 :: v63 :: v64 :: v65 :: v66 :: v67 :: v68 :: v69 :: v70 :: v71 :: v72 :: v73 :: v74 :: v75 :: v76 :: v77 :: v78 :: v79 :: v80 :: v81 :: v82 :: v83 :: v84 :: v85 :: v86 :: v87 :: v88 :: v89 :: v90 :: v91 :: v92 :: v93 :: v94 :: v95 :: v96 :: u97 :: u98 :: u99 :: u100 :: u101 :: u102 :: u103 :: u104 :: u105 :: u106 :: u107 :: u108 :: u109 :: u110 :: u111 :: u112 :: u113 :: u114 :: u115 :: u116 :: u117 :: u118 :: u119 :: u120 :: u121 :: u122 :: u123 :: u124 :: u125 :: u126 :: u127 :: u128 :: u129 :: u130 :: u131 :: u132 :: u133 :: u134 :: u135 :: u136 :: u137 :: u138 :: u139 :: u140 :: u141 :: u142 :: u143 :: u144 :: u145 :: u146 :: u147 :: u148 :: u149 :: u150 :: u151 :: u152 :: u153 :: u154 :: u155 :: u156 :: u157 :: u158 :: u159 :: u160 :: u161 :: u162 :: u163 :: u164 :: u165 :: u166 :: u167 :: u168 :: u169 :: u170 :: u171 :: u172 :: u173 :: u174 :: u175 :: u176 :: u177 :: u178 :: u179 :: u180 :: u181 :: u182 :: u183 :: u184 :: u185 :: u186 :: u187 :: u188 :: u189 :: u190 :: u191 :: u192 :: u193 :: u194 :: u195 :: u196 :: u197 :: u198 :: u199 :: u200 :: u201 :: u202 :: u203 :: u204 :: u205 :: u206 :: u207 :: u208 :: u209 :: u210 :: u211 :: u212 :: u213 :: u214 :: u215 :: u216 :: u217 :: u218 :: u219 :: u220 :: u221 :: u222 :: u223 :: u224 :: u225 :: u226 :: u227 :: u228 :: u229 :: u230 :: u231 :: u232 :: u233 :: u234 :: u235 :: u236 :: u237 :: u238 :: u239 :: u240 :: u241 :: u242 :: u243 :: u244 :: u245 :: u246 :: u247 :: u248 :: u249 :: u250 :: u251 :: u252 :: u253 :: u254 :: u255 :: u256 :: u257 :: u258 :: u259 :: u260 :: u261 :: u262 :: u263 :: u264 :: u265 :: u266 :: u267 :: u268 :: u269 :: []), []⟩ w')) :
    Code.wp Yba.prog (loopAt 1 (Yba.f3.body.getD .skip)) Q ⟨List.toArray (u0 :: u1 :: u2 :: u3 :: u4 :: u5 :: u6 :: u7 :: u8 :: .int .i64 m :: .slice (some ⟨bv, 0, none⟩) m m :: u11 :: u12 :: u13 :: u14 :: u15 :: u16 :: u17 :: u18 :: u19 :: u20 :: u21 :: u22 :: u23 :: u24 :: u25 :: u26 :: u27 :: u28 :: u29 :: u30 :: u31 :: u32 :: u33 :: u34 :: u35 :: u36 :: u37 :: u38 :: u39 :: u40 :: u41 :: u42 :: u43 :: u44 :: u45 :: u46 :: u47 :: u48 :: u49 :: u50 :: u51 :: u52 :: u53 :: u54 :: u55 :: u56 :: u57 :: u58 :: u59 :: u60 :: .slice a1 len1 cap1 :: .int .i64 len1 :: .int .i64 0 :: u64 :: u65 :: u66 :: u67 :: u68 :: u69 :: u70 :: u71 :: u72 :: u73 :: u74 :: u75 :: u76 :: u77 :: u78 :: u79 :: u80 :: u81 :: u82 :: u83 :: u84 :: u85 :: u86 :: u87 :: u88 :: u89 :: u90 :: u91 :: u92 :: u93 :: u94 :: u95 :: u96 :: u97 :: u98 :: u99 :: u100 :: u101 :: u102 :: u103 :: u104 :: u105 :: u106 :: u107 :: u108 :: u109 :: u110 :: u111 :: u112 :: u113 :: u114 :: u115 :: u116 :: u117 :: u118 :: u119 :: u120 :: u121 :: u122 :: u123 :: u124 :: u125 :: u126 :: u127 :: u128 :: u129 :: u130 :: u131 :: u132 :: u133 :: u134 :: u135 :: u136 :: u137 :: u138 :: u139 :: u140 :: u141 :: u142 :: u143 :: u144 :: u145 :: u146 :: u147 :: u148 :: u149 :: u150 :: u151 :: u152 :: u153 :: u154 :: u155 :: u156 :: u157 :: u158 :: u159 :: u160 :: u161 :: u162 :: u163 :: u164 :: u165 :: u166 :: u167 :: u168 :: u169 :: u170 :: u171 :: u172 :: u173 :: u174 :: u175 :: u176 :: u177 :: u178 :: u179 :: u180 :: u181 :: u182 :: u183 :: u184 :: u185 :: u186 :: u187 :: u188 :: u189 :: u190 :: u191 :: u192 :: u193 :: u194 :: u195 :: u196 :: u197 :: u198 :: u199 :: u200 :: u201 :: u202 :: u203 :: u204 :: u205 :: u206 :: u207 :: u208 :: u209 :: u210 :: u211 :: u212 :: u213 :: u214 :: u215 :: u216 :: u217 :: u218 :: u219 :: u220 :: u221 :: u222 :: u223 :: u224 :: u225 :: u226 :: u227 :: u228 :: u229 :: u230 :: u231 :: u232 :: u233 :: u234 :: u235 :: u236 :: u237 :: u238 :: u239 :: u240 :: u241 :: u242 :: u243 :: u244 :: u245 :: u246 :: u247 :: u248 :: u249 :: u250 :: u251 :: u252 :: u253 :: u254 :: u255 :: u256 :: u257 :: u258 :: u259 :: u260 :: u261 :: u262 :: u263 :: u264 :: u265 :: u266 :: u267 :: u268 :: u269 :: []), []⟩ w0 := by
  have HC : Hid (∀ j, j < len1 → ∃ be oe, a1 = some ⟨be, oe, none⟩ ∧ be < b0 ∧ w0.cell? ⟨be, oe + j, none⟩ = some (.int .u16 (E j))) := hc
  have HB : Hid (Built w0 m bv b0 (fun _ => []) (fun _ => .slice none 0 0)) := hB
  clear hc hB
  conv => arg 2; whnf
  go_loopg [63] len1 (fun k cc wr => ∃ (j : Nat) (par : Nat → List Nat) (pv : Nat → Value), k + j = len1 ∧ cc = .int .i64 j ∧ Built wr m bv b0 par pv ∧ (∀ i, (par i).length ≤ j) ∧ Touch (fun k => b0 ≤ k) w0 wr)
  case atStart => exact ⟨0, _, _, rfl, rfl, HB.out, fun i => by simp, Touch.refl _ _⟩
  case round =>
    clear HB
    obtain ⟨j, par, pv, hkj, rfl, hB, hp, ht⟩ := hrel
    by_cases hj : j < len1
    · obtain ⟨be, oe, h1, h2, h3⟩ := HC.out j hj
      have he := hE j
      have hlb := low_bits (E j) he.1 he.2
      obtain ⟨a, ha, ham⟩ := mod_nat (E j / 256) m (by omega) (by omega)
      obtain ⟨b, hb, hbm⟩ := mod_nat (bits BinOp.and IntKind.u16 (E j) 255) m hlb.1 (by omega)
      have ham' : a < m := by omega
      have hbm' : b < m := by omega
      have h3' := ht.cell h3 (by simp; omega)
      have hgr := hB.gr
      have hpa := hgr.pars a ham'
      have hpl := hp a
      subst h1
      refine round2 m bv b0 be oe len1 cap1 j a b (E j) (pv a) (vptrs b0 (par a)) wr hm hm0 hj hl he.1 he.2 ha hb ham' hbm' hlb.1 hlb.2 h3' (hgr.vs a ham') (hgr.vs b hbm') hpa.1 (hB.free4 a ham') (by rw [vptrs_len]; exact hpa.2.1) (by rw [vptrs_len]; omega) hgr.top hgr.lo ?_
      intro v13 v14 v15 v64 v65 v66 v67 v68 v69 v70 v71 v72 v73 v74 v75 v76 v77 v78 v79 v80 v81 v82 v83 v84 v85 v86 v87 v88 v89 v90 v91 v92 v93 v94 v95 v96 g cap w1 r1 r2 r3
      rw [vptrs_len] at r1 ⊢
      have R := hB.step ham' hbm' r1 r2 r3
      have R2 : Touch (fun k => b0 ≤ k) w0 (w1.setCell ⟨b0 + a, 4, none⟩ (.slice (some ⟨g, 0, none⟩) ((par a).length + 1) cap)) := ht.next R.2 (fun k hk e => by
        rcases e with e | e
        · omega
        · have := (hpa.2.1.lt k e).1; omega)
      have HR : Hid (Built (w1.setCell ⟨b0 + a, 4, none⟩ (.slice (some ⟨g, 0, none⟩) ((par a).length + 1) cap)) m bv b0 (addPar par a b) (setPv pv a (.slice (some ⟨g, 0, none⟩) ((par a).length + 1) cap))) := R.1
      have HT : Hid (Touch (fun k => b0 ≤ k) w0 (w1.setCell ⟨b0 + a, 4, none⟩ (.slice (some ⟨g, 0, none⟩) ((par a).length + 1) cap))) := R2
      clear R R2 r1 r2 r3 hpa hgr h3' h3 ht hB
      go_wp2
      go_roundg (len1 - (j + 1))
      case measure => omega
      case rel => exact ⟨j + 1, _, _, by omega, by go_num, HR.out, fun i => addPar_len hp i, HT.out⟩
    · have HB : Hid (Built wr m bv b0 par pv) := hB
      have HT : Hid (Touch (fun k => b0 ≤ k) w0 wr) := ht
      clear hB ht
      go_wp2
      exact hQ.out _ _ _ _ _ _ _ _ _ _ _ _ _ _ _ _ _ _ _ _ _ _ _ _ _ _ _ _ _ _ _ _ _ _ _ _ _ _ par pv HB.out (fun i => by have := hp i; omega) HT.out

end Go.Proofs.Ybulkbngq

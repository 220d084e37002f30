/-
  'snow.LawS3201AReach' (3), whole.
-/
import Derived.Test.YbulkbngqL1
import Derived.Test.YbulkbngqL2
import Derived.Test.YbulkbngqL3
import Derived.Laws.EntriesVeiled
namespace Go.Proofs.Ybulkbngq
open Go.RowKit Plain
set_option linter.unusedVariables false

/-- A zero DAG's cells. -/
def dagCells : Array Value := #[.int .i64 0, .int .i64 0, .int .i64 0, .int .i64 0, .nilFunc, .nilFunc, .nilFunc, .nilFunc, .map none, .slice none 0 0, .int .i64 0, .int .i64 0, .map none, .int .i64 0, .map none, .int .i64 0, .int .i64 0, .slice none 0 0, .int .u64 0, .slice none 0 0, .slice none 0 0, .nilFunc, .int .i64 0, .slice none 0 0, .nilFunc, .int .i64 0, .slice none 0 0, .int .u64 0, .slice none 0 0, .int .u64 0, .slice none 0 0, .slice none 0 0, .slice none 0 0, .slice none 0 0, .int .i64 0, .slice none 0 0, .int .u64 0, .slice none 0 0, .int .i64 0, .slice none 0 0, .int .u64 0, .slice none 0 0, .int .i64 0, .slice none 0 0, .int .i64 0, .map none, .slice none 0 0, .int .i64 0, .slice none 0 0, .int .i64 0, .int .u8 0, .int .u8 0, .int .u8 0, .int .u8 0, .int .u8 0, .int .u8 0, .int .u8 0, .int .u8 0, .int .u8 0, .int .u8 0, .int .u8 0, .int .u8 0, .int .u8 0, .int .u8 0, .int .u8 0, .int .u8 0, .slice none 0 0, .bool false, .bool false]
theorem zero81 (w : World) : (zeroValue 81).run Yba.prog w = .ok (.agg dagCells) w := by kernel_rfl

theorem ds_start {w2 : World} {m bv b0 bs : Nat} {par : Nat → List Nat} {pv : Nat → Value} {stop : Int} (hB : Built w2 m bv b0 par pv) (hlo : bs < bv) (hs : w2.cell? ⟨bs, 0, none⟩ = some (.int .u64 stop)) :
    DS ((w2.alloc (.cells dagCells 81)).alloc (.cells #[.func (.func 6) #[] #[.pointer (some ⟨bs, 0, none⟩)]] 82)) m bv b0 w2.heap.size w2.heap.size bs par pv stop 0 (fun _ => 0) none 0 := by
  have ht : Touch (fun _ => False) w2 ((w2.alloc (.cells dagCells 81)).alloc (.cells #[.func (.func 6) #[] #[.pointer (some ⟨bs, 0, none⟩)]] 82)) := ((Touch.refl _ w2).alloc _).alloc _
  have hb : ((w2.alloc (.cells dagCells 81)).alloc (.cells #[.func (.func 6) #[] #[.pointer (some ⟨bs, 0, none⟩)]] 82)).heap[w2.heap.size]? = some (.cells dagCells 81 (0, 0)) := by
    rw [Below.heap_alloc _ _ _ (by simp)]
    exact heap_alloc_new w2 _
  have hc : ((w2.alloc (.cells dagCells 81)).alloc (.cells #[.func (.func 6) #[] #[.pointer (some ⟨bs, 0, none⟩)]] 82)).heap[w2.heap.size + 1]? = some (.cells #[.func (.func 6) #[] #[.pointer (some ⟨bs, 0, none⟩)]] 82 (0, 0)) := by
    have := heap_alloc_new (w2.alloc (.cells dagCells 81)) (.cells #[.func (.func 6) #[] #[.pointer (some ⟨bs, 0, none⟩)]] 82)
    rw [show (w2.alloc (.cells dagCells 81)).heap.size = w2.heap.size + 1 by simp] at this
    exact this
  refine ⟨hB.gr.touch ht (fun _ _ e => e), fun _ => ⟨by omega, by omega⟩, ?_, frozen_of_row _ _ 27 _ 81 hb, frozen_of_row _ _ 28 _ 81 hb, ?_, World.ownsRow_nil _ _ _ _, by omega, ht.cell hs (fun e => e), cell_of_one hc, Nat.le_refl _, hlo, by simp⟩
  · rw [cell_of_row _ _ 27 _ 81 (0, 0) hb]; rfl
  · rw [cell_of_row _ _ 28 _ 81 (0, 0) hb]; rfl

set_option maxRecDepth 100000 in
set_option maxHeartbeats 1000000 in
theorem reach_long (a0 : Int) (a1 : Option Addr) (len1 cap1 : Nat) (a2 : Int) (a3 : Option Addr) (len3 cap3 : Nat) (w : World) (h : 1024 < len1 ∨ 256 < len3) :
    Calls Yba.prog 3 #[.int .u8 a0, .slice a1 len1 cap1, .int .u64 a2, .slice a3 len3 cap3] w fun e w' => e = .returned (.bool true) ∧ Below w.heap.size w w' := by
  by_cases h1 : 1024 < len1
  · have d1 : decide ((1024 : Int) < (len1 : Int)) = true := by simp; omega
    go_enter Yba.func3, Yba.ntmps3
    go_wp2
    go_ret
    exact ⟨rfl, (Below.refl _ _).alloc (Nat.le_refl _) _⟩
  · have d1 : decide ((1024 : Int) < (len1 : Int)) = false := by simp; omega
    have d3 : decide ((256 : Int) < (len3 : Int)) = true := by simp; omega
    go_enter Yba.func3, Yba.ntmps3
    go_wp2
    go_ret
    exact ⟨rfl, (Below.refl _ _).alloc (Nat.le_refl _) _⟩

set_option maxRecDepth 100000 in
set_option maxHeartbeats 4000000 in
theorem reach_main (a0 : Int) (a1 : Option Addr) (len1 cap1 : Nat) (E : Nat → Int) (a2 : Int) (a3 : Option Addr) (len3 cap3 : Nat) (Z : Nat → Int) (w : World) (b0 : 0 ≤ a0) (b0' : a0 ≤ 255) (b2 : 0 ≤ a2) (b2' : a2 ≤ 18446744073709551615)
   (hl1 : len1 ≤ 1024) (hl3 : len3 ≤ 256) (hE : ∀ j, 0 ≤ E j ∧ E j ≤ 65535) (hZ : ∀ j, 0 ≤ Z j ∧ Z j ≤ 255)
   (hc1 : ∀ j, j < len1 → ∃ be oe, a1 = some ⟨be, oe, none⟩ ∧ be < w.heap.size ∧ w.cell? ⟨be, oe + j, none⟩ = some (.int .u16 (E j)))
   (hc3 : ∀ j, j < len3 → ∃ be oe, a3 = some ⟨be, oe, none⟩ ∧ be < w.heap.size ∧ w.cell? ⟨be, oe + j, none⟩ = some (.int .u8 (Z j))) :
    Calls Yba.prog 3 #[.int .u8 a0, .slice a1 len1 cap1, .int .u64 a2, .slice a3 len3 cap3] w fun e w' => e = .returned (.bool true) ∧ Below w.heap.size w w' := by
  have d1 : decide ((1024 : Int) < (len1 : Int)) = false := by simp; omega
  have d3 : decide ((256 : Int) < (len3 : Int)) = false := by simp; omega
  obtain ⟨m, hmm⟩ := Int.eq_ofNat_of_zero_le (show 0 ≤ a0 % 64 + 1 by omega)
  have hm : m ≤ 64 := by omega
  have hm0 : 0 < m := by omega
  have hmk := run_make_row' (P := Yba.prog) 25 26 (.pointer none) 8 Yba.underlying25 info26 rfl .i64 .i64 m (by omega) (by omega)
  have HM : Hid (a0 % 64 + 1 = (m : Int)) := hmm
  have HC1 : Hid (∀ j, j < len1 → ∃ be oe, a1 = some ⟨be, oe, none⟩ ∧ be < w.heap.size ∧ w.cell? ⟨be, oe + j, none⟩ = some (.int .u16 (E j))) := hc1
  have HC3 : Hid (∀ j, j < len3 → ∃ be oe, a3 = some ⟨be, oe, none⟩ ∧ be < w.heap.size ∧ w.cell? ⟨be, oe + j, none⟩ = some (.int .u8 (Z j))) := hc3
  clear hc1 hc3
  go_enter Yba.func3, Yba.ntmps3
  go_wp2
  have HP : Hid (((w.alloc (.cells #[.int .u64 a2] 23)).alloc (.cells (madeCells #[.pointer none] m) 26)).rowIs (w.heap.size + 1) 26 m (fun _ => .pointer none)) := by
    have := World.rowIs_made (w.alloc (.cells #[.int .u64 a2] 23)) (.pointer none) m 26
    rw [show (w.alloc (.cells #[.int .u64 a2] 23)).heap.size = w.heap.size + 1 by simp] at this
    exact this
  refine loop1 m (w.heap.size + 1) (w.heap.size + 2) _ hm (by omega) (by simp) HP.out ?_
  intro v11 v51 v52 v53 v54 v55 v56 v57 v58 v59 v60 w1 hB1 ht1
  have T1 : Hid (Touch (fun q => w.heap.size ≤ q) w w1) := (((Touch.refl _ w).alloc _).alloc _).next ht1 (fun q hq e => by omega)
  have HB1 : Hid (Built w1 m (w.heap.size + 1) (w.heap.size + 2) (fun _ => []) (fun _ => .slice none 0 0)) := hB1
  have HS1 : Hid (w1.cell? ⟨w.heap.size, 0, none⟩ = some (.int .u64 a2)) := ht1.cell (cell_alloc (by rw [World.cell?_alloc_at _ _ _ _ rfl]; rfl) _) (by simp)
  clear hB1 ht1 HP hmk hmm HM d1 d3
  go_wp2
  refine loop2 m (w.heap.size + 1) (w.heap.size + 2) a1 len1 cap1 E w1 hm hm0 hl1 hE (fun j hj => by obtain ⟨be, oe, e1, e2, e3⟩ := HC1.out j hj; exact ⟨be, oe, e1, by omega, T1.out.cell e3 (by simp; omega)⟩) HB1.out ?_
  intro v13 v14 v15 v63 v64 v65 v66 v67 v68 v69 v70 v71 v72 v73 v74 v75 v76 v77 v78 v79 v80 v81 v82 v83 v84 v85 v86 v87 v88 v89 v90 v91 v92 v93 v94 v95 v96 w2 par pv hB2 hpl ht2
  have T2 : Hid (Touch (fun q => w.heap.size ≤ q) w w2) := T1.out.next ht2 (fun q hq e => by omega)
  have HB2 : Hid (Built w2 m (w.heap.size + 1) (w.heap.size + 2) par pv) := hB2
  have HS2 : Hid (w2.cell? ⟨w.heap.size, 0, none⟩ = some (.int .u64 a2)) := ht2.cell HS1.out (by simp)
  clear hB2 ht2 HB1 HS1 T1
  have hz := zero81
  go_wp2
  have HDS : Hid (DS ((w2.alloc (.cells dagCells 81)).alloc (.cells #[.func (.func 6) #[] #[.pointer (some ⟨w.heap.size, 0, none⟩)]] 82)) m (w.heap.size + 1) (w.heap.size + 2) w2.heap.size w2.heap.size w.heap.size par pv a2 0 (fun _ => 0) none 0) := ds_start HB2.out (by omega) HS2.out
  have T3 : Hid (Touch (fun q => w.heap.size ≤ q) w ((w2.alloc (.cells dagCells 81)).alloc (.cells #[.func (.func 6) #[] #[.pointer (some ⟨w.heap.size, 0, none⟩)]] 82))) := (T2.out.alloc _).alloc _
  clear hz HB2 HS2 T2
  refine loop3 m (w.heap.size + 1) (w.heap.size + 2) w2.heap.size w2.heap.size w.heap.size a3 len3 cap3 Z a2 par pv _ hm hm0 hl3 b2 b2' (fun i _ => by have := hpl i; omega) hZ (fun j hj => by obtain ⟨be, oe, e1, e2, e3⟩ := HC3.out j hj; exact ⟨be, oe, e1, by omega, T3.out.cell e3 (by simp; omega)⟩) HDS.out ?_
  intro v8 v18 v19 v20 v21 v22 v23 v24 v25 v26 v27 v29 v30 v32 v33 v34 v102 v103 v104 v105 v106 v107 v108 v109 v110 v111 v112 v113 v114 v115 v116 v117 v118 v119 v120 v121 v122 v123 v124 v125 v126 v127 v128 v129 v130 v131 v132 v133 v134 v135 v136 v137 v138 v139 v140 v141 v142 v143 v144 v145 v146 v147 v148 v149 v150 v151 v152 v153 v154 v155 v156 v157 v158 v159 v160 v161 v162 v163 v164 v165 v166 v167 v168 v169 v170 v171 v172 v173 v174 v175 v176 v177 v178 v179 v180 v181 v182 v183 v184 v185 v186 v187 v188 v189 v190 v191 v192 v193 v194 v195 v196 v197 v198 v199 v200 v201 v202 v203 v204 v205 v206 v207 v208 v209 v210 v211 v212 v213 v214 v215 v216 v217 v218 v219 v220 v221 v222 v223 v224 v225 v226 v227 v228 v229 v230 v231 v232 v233 v234 v235 v236 v237 v238 v239 v240 v241 v242 v243 v244 v245 v246 v247 v248 v249 v250 v251 v252 v253 v254 v255 v256 v257 v258 v259 v260 v261 v262 v263 v264 v265 v266 v267 v268 v269 w4 ht4
  have T4 : Hid (Touch (fun q => w.heap.size ≤ q) w w4) := T3.out.next ht4 (fun q hq e => by omega)
  clear ht4 T3 HDS HC1 HC3 hE hZ hpl
  go_wp2
  go_ret
  exact ⟨rfl, T4.out.below (Nat.le_refl _) (fun q e => e)⟩
end Go.Proofs.Ybulkbngq

/-
  LawS3212AReads (3) from 'c := int(cut) % (len(word) + 2)' on. (The frames written out by program.)
-/
import Derived.Test.YbulkbnmoFmtLawG
namespace Go.Proofs.YbulkbnmoFmt
open Go.RowKit Go.Extern.Stop Go.Stop Go.Extern
set_option linter.unusedVariables false

set_option maxRecDepth 100000 in
set_option maxHeartbeats 4000000 in
theorem tail12 {u0 u1 u6 u7 u8 u9 u10 u11 u12 u14 u15 u16 u17 u18 u19 u20 u21 u22 u23 u24 u25 u26 u27 u28 u29 u30 u31 u32 u33 u34 u35 u36 u37 u38 u39 u40 u41 u42 u43 u44 u45 u46 u47 u48 u49 u50 u51 u52 u53 u54 u55 u56 u57 u58 u59 u60 u61 u62 u63 u64 u65 u66 u67 u68 u69 u70 u71 u72 u73 u74 u75 u76 u77 u78 u79 u80 u81 u82 u83 u84 u85 u86 u87 u88 u89 u90 u91 u92 u93 u94 u95 u96 u97 u98 u99 u100 u101 u102 u103 u104 u105 u106 u107 u108 u109 u110 u111 u112 u113 u114 u115 u116 u117 u118 u119 u120 u121 u122 u123 u124 u125 u126 u127 u128 u129 u130 u131 u132 u133 u134 u135 u136 u137 u138 u139 u140 u141 u142 u143 u144 u145 u146 u147 u148 u149 u150 u151 u152 u153 u154 u155 u156 u157 u158 u159 u160 u161 u162 u163 u164 u165 u166 u167 u168 u169 u170 u171 u172 u173 u174 u175 u176 u177 u178 u179 u180 u181 u182 : Value} (w0 : World) (F : Interp) (chunk : Nat) (fl : Bool) (ea : Addr) (aw ta : Option Addr) (wl wc tl tc cut : Nat) (s2 : ByteArray) (ws ts : List UInt8) {ce : Array Value} {te : TypeId} (w : World) (hwl : wl = ws.length) (htl : tl = ts.length) (hF : F.answers w.tape) (hch : chunk < 256) (hcut : cut < 65536)
    (hw : WordAt w aw wc ws w.heap.size) (hws : ws.length ≤ 1024) (hsh : (aw = none ∧ ws.length = 0 ∧ wc = 0) ∨ (∃ gw, aw = some ⟨gw, 0, none⟩ ∧ 0 < wc)) (ht : BytesAt w ta ts) (hts : ts.length ≤ 1024) (hg : w.cell? ⟨0, 0, none⟩ = some (.iface 44 (.pointer (some ea)))) (hea : w.heap[ea.block]? = some (.cells ce te (0, 0))) (hec : w.cell? ea = some (.string s2)) (hT : Touch (fun _ => False) w0 w) :
    Code.wp Ybaf.prog (tailFrom 12 (Ybaf.f3.body.getD .skip)) (bodyPost Ybaf.prog Ybaf.f3 (fun e w' => e = .returned (.bool true) ∧ Touch (fun _ => False) w0 w')) ⟨List.toArray (u0 :: u1 :: .int .u16 (cut : Int) :: .slice ta tl tc :: .int .u8 (chunk : Int) :: .bool fl :: u6 :: u7 :: u8 :: u9 :: u10 :: u11 :: u12 :: .slice aw wl wc :: u14 :: u15 :: u16 :: u17 :: u18 :: u19 :: u20 :: u21 :: u22 :: u23 :: u24 :: u25 :: u26 :: u27 :: u28 :: u29 :: u30 :: u31 :: u32 :: u33 :: u34 :: u35 :: u36 :: u37 :: u38 :: u39 :: u40 :: u41 :: u42 :: u43 :: u44 :: u45 :: u46 :: u47 :: u48 :: u49 :: u50 :: u51 :: u52 :: u53 :: u54 :: u55 :: u56 :: u57 :: u58 :: u59 :: u60 :: u61 :: u62 :: u63 :: u64 :: u65 :: u66 :: u67 :: u68 :: u69 :: u70 :: u71 :: u72 :: u73 :: u74 :: u75 :: u76 :: u77 :: u78 :: u79 :: u80 :: u81 :: u82 :: u83 :: u84 :: u85 :: u86 :: u87 :: u88 :: u89 :: u90 :: u91 :: u92 :: u93 :: u94 :: u95 :: u96 :: u97 :: u98 :: u99 :: u100 :: u101 :: u102 :: u103 :: u104 :: u105 :: u106 :: u107 :: u108 :: u109 :: u110 :: u111 :: u112 :: u113 :: u114 :: u115 :: u116 :: u117 :: u118 :: u119 :: u120 :: u121 :: u122 :: u123 :: u124 :: u125 :: u126 :: u127 :: u128 :: u129 :: u130 :: u131 :: u132 :: u133 :: u134 :: u135 :: u136 :: u137 :: u138 :: u139 :: u140 :: u141 :: u142 :: u143 :: u144 :: u145 :: u146 :: u147 :: u148 :: u149 :: u150 :: u151 :: u152 :: u153 :: u154 :: u155 :: u156 :: u157 :: u158 :: u159 :: u160 :: u161 :: u162 :: u163 :: u164 :: u165 :: u166 :: u167 :: u168 :: u169 :: u170 :: u171 :: u172 :: u173 :: u174 :: u175 :: u176 :: u177 :: u178 :: u179 :: u180 :: u181 :: u182 :: []), []⟩ w := by
  have e1 : (cut : Int).tmod ((wl : Int) + 2) = ((cut % (wl + 2) : Nat) : Int) := by rw [Int.tmod_eq_emod_of_nonneg (by omega)]; simp
  obtain ⟨c0, hc0⟩ : ∃ c0, c0 = cut % (wl + 2) := ⟨_, rfl⟩
  rw [← hc0] at e1
  have hc2 : c0 < wl + 2 := by rw [hc0]; exact Nat.mod_lt _ (by omega)
  have hwlb : wl ≤ 1024 := by omega
  have e2 : ¬ ((wl : Int) + 2 = 0) := by omega
  have e3 : ¬ ((wl : Int) = -2) := by omega
  have HEND : Hid (∀ (c : Nat) {u0 u1 u2 u6 u7 u8 u9 u10 u11 u12 u15 u16 u17 u18 u19 u20 u21 u22 u23 u24 u25 u26 u27 u28 u29 u30 u31 u32 u33 u34 u35 u36 u37 u38 u39 u40 u41 u42 u43 u44 u45 u46 u47 u48 u49 u50 u51 u52 u53 u54 u55 u56 u57 u58 u59 u60 u61 u62 u63 u64 u65 u66 u67 u68 u69 u70 u71 u72 u73 u74 u75 u76 u77 u78 u79 u80 u81 u82 u83 u84 u85 u86 u87 u88 u89 u90 u91 u92 u93 u94 u95 u96 u97 u98 u99 u100 u101 u102 u103 u104 u105 u106 u107 u108 u109 u110 u111 u112 u113 u114 u115 u116 u117 u118 u119 u120 u121 u122 u123 u124 u125 u126 u127 u128 u129 u130 u131 u132 u133 u134 u135 u136 u137 u138 u139 u140 u141 u142 u143 u144 u145 u146 u147 u148 u149 u150 u151 u152 u153 u154 u155 u156 u157 u158 u159 u160 u161 u162 u163 u164 u165 u166 u167 u168 u169 u170 u171 u172 u173 u174 u175 u176 u177 u178 u179 u180 u181 u182 : Value}, c ≤ wl → Code.wp Ybaf.prog (tailFrom 15 (Ybaf.f3.body.getD .skip)) (bodyPost Ybaf.prog Ybaf.f3 (fun e w' => e = .returned (.bool true) ∧ Touch (fun _ => False) w0 w')) ⟨List.toArray (u0 :: u1 :: u2 :: .slice ta tl tc :: .int .u8 (chunk : Int) :: .bool fl :: u6 :: u7 :: u8 :: u9 :: u10 :: u11 :: u12 :: .slice aw wl wc :: .int .i64 (c : Int) :: u15 :: u16 :: u17 :: u18 :: u19 :: u20 :: u21 :: u22 :: u23 :: u24 :: u25 :: u26 :: u27 :: u28 :: u29 :: u30 :: u31 :: u32 :: u33 :: u34 :: u35 :: u36 :: u37 :: u38 :: u39 :: u40 :: u41 :: u42 :: u43 :: u44 :: u45 :: u46 :: u47 :: u48 :: u49 :: u50 :: u51 :: u52 :: u53 :: u54 :: u55 :: u56 :: u57 :: u58 :: u59 :: u60 :: u61 :: u62 :: u63 :: u64 :: u65 :: u66 :: u67 :: u68 :: u69 :: u70 :: u71 :: u72 :: u73 :: u74 :: u75 :: u76 :: u77 :: u78 :: u79 :: u80 :: u81 :: u82 :: u83 :: u84 :: u85 :: u86 :: u87 :: u88 :: u89 :: u90 :: u91 :: u92 :: u93 :: u94 :: u95 :: u96 :: u97 :: u98 :: u99 :: u100 :: u101 :: u102 :: u103 :: u104 :: u105 :: u106 :: u107 :: u108 :: u109 :: u110 :: u111 :: u112 :: u113 :: u114 :: u115 :: u116 :: u117 :: u118 :: u119 :: u120 :: u121 :: u122 :: u123 :: u124 :: u125 :: u126 :: u127 :: u128 :: u129 :: u130 :: u131 :: u132 :: u133 :: u134 :: u135 :: u136 :: u137 :: u138 :: u139 :: u140 :: u141 :: u142 :: u143 :: u144 :: u145 :: u146 :: u147 :: u148 :: u149 :: u150 :: u151 :: u152 :: u153 :: u154 :: u155 :: u156 :: u157 :: u158 :: u159 :: u160 :: u161 :: u162 :: u163 :: u164 :: u165 :: u166 :: u167 :: u168 :: u169 :: u170 :: u171 :: u172 :: u173 :: u174 :: u175 :: u176 :: u177 :: u178 :: u179 :: u180 :: u181 :: u182 :: []), []⟩ w) := by
    unfold Hid
    intros
    exact tail15 w0 F chunk fl ea aw ta wl wc tl tc _ s2 ws ts w hwl htl hF hch (by assumption) hw hws hsh ht hts hg hea hec hT
  clear hc0 hwl htl hF hch hw hws hsh ht hts hg hea hec hT
  conv => arg 2; whnf
  refine seq_stop (b' := tailFrom 13 (Ybaf.f3.body.getD .skip)) rfl ?_
  intro K1 hK1
  go_wp2
  refine hK1.out _ _ ?_
  clear hK1 e1 e2 e3
  conv => arg 2; whnf
  refine seq_stop (b' := tailFrom 15 (Ybaf.f3.body.getD .skip)) rfl ?_
  intro K2 hK2
  by_cases hgt : wl < c0
  · have hd : decide ((wl : Int) < (c0 : Int)) = true := by simp; omega
    go_wp2
    refine hK2.out _ _ ?_
    exact HEND.out wl (Nat.le_refl _)
  · have hd : decide ((wl : Int) < (c0 : Int)) = false := by simp; omega
    go_wp2
    refine hK2.out _ _ ?_
    exact HEND.out c0 (by omega)
end Go.Proofs.YbulkbnmoFmt

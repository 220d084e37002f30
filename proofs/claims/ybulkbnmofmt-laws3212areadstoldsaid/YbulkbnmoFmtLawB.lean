/-
  LawS3212AReads (3): its second loop, 'for i := range rest'. (The frames written out by program.)
-/
import Derived.Test.YbulkbnmoFmtLit
namespace Go.Proofs.YbulkbnmoFmt
open Go.RowKit
set_option linter.unusedVariables false

set_option maxRecDepth 100000 in
set_option maxHeartbeats 4000000 in
theorem law_loop2 {u0 u1 u2 u3 u4 u5 u6 u7 u8 u9 u10 u11 u12 u14 u16 u17 u18 u19 u20 u21 u23 u24 u25 u26 u27 u28 u29 u30 u31 u32 u33 u34 u35 u36 u37 u38 u39 u40 u41 u42 u43 u44 u45 u46 u47 u48 u49 u50 u51 u52 u53 u54 u55 u56 u57 u58 u59 u60 u61 u62 u63 u64 u65 u66 u67 u68 u69 u70 u71 u72 u73 u74 u75 u76 u77 u78 u79 u80 u81 u82 u83 u84 u85 u86 u87 u88 u89 u90 u91 u92 u93 u94 u95 u96 u97 u98 u99 u100 u101 u102 u103 u104 u105 u106 u107 u108 u109 u110 u111 u112 u113 u114 u115 u116 u117 u118 u119 u120 u121 u122 u123 u124 u125 u126 u127 u128 u129 u130 u131 u132 u133 u134 u135 u136 u137 u138 u139 u140 u141 u142 u143 u144 u145 u146 u149 u150 u151 u152 u153 u154 u155 u156 u157 u158 u159 u160 u161 u162 u163 u164 u165 u166 u167 u168 u169 u170 u171 u172 u173 u174 u175 u176 u177 u178 u179 u180 u181 u182 : Value} {Q : Exit → Act → World → Prop} (aw : Option Addr) (n wc gd dl dc g L rc : Nat) (ds : List UInt8) (w : World) (hdl : dl = ds.length) (hnl : n + L ≤ dl) (hdc : dl ≤ dc) (hdc2 : dc ≤ 4096) (hL : L ≤ rc)
    (hd : ∀ j, (h : j < ds.length) → w.cell? ⟨gd, j, none⟩ = some (byteV ds[j])) (hb : ∀ j, (h : j < ds.length) → j < n + L → w.cell? ⟨g, j, none⟩ = some (byteV ds[j]))
    (hQ : Hid (∀ (v12 v23 v148 v149 v150 v151 v152 v153 v154 v155 v156 v157 v158 v159 v160 v161 v162 v163 : Value) (w' : World), Touch (fun _ => False) w w' → Q (.exit 3) ⟨List.toArray (u0 :: u1 :: u2 :: u3 :: u4 :: u5 :: u6 :: u7 :: u8 :: u9 :: u10 :: u11 :: v12 :: .slice aw n wc :: u14 :: .slice (some ⟨gd, 0, none⟩) dl dc :: u16 :: u17 :: u18 :: u19 :: u20 :: u21 :: .slice (some ⟨g, n, none⟩) L rc :: v23 :: u24 :: u25 :: u26 :: u27 :: u28 :: u29 :: u30 :: u31 :: u32 :: u33 :: u34 :: u35 :: u36 :: u37 :: u38 :: u39 :: u40 :: u41 :: u42 :: u43 :: u44 :: u45 :: u46 :: u47 :: u48 :: u49 :: u50 :: u51 :: u52 :: u53 :: u54 :: u55 :: u56 :: u57 :: u58 :: u59 :: u60 :: u61 :: u62 :: u63 :: u64 :: u65 :: u66 :: u67 :: u68 :: u69 :: u70 :: u71 :: u72 :: u73 :: u74 :: u75 :: u76 :: u77 :: u78 :: u79 :: u80 :: u81 :: u82 :: u83 :: u84 :: u85 :: u86 :: u87 :: u88 :: u89 :: u90 :: u91 :: u92 :: u93 :: u94 :: u95 :: u96 :: u97 :: u98 :: u99 :: u100 :: u101 :: u102 :: u103 :: u104 :: u105 :: u106 :: u107 :: u108 :: u109 :: u110 :: u111 :: u112 :: u113 :: u114 :: u115 :: u116 :: u117 :: u118 :: u119 :: u120 :: u121 :: u122 :: u123 :: u124 :: u125 :: u126 :: u127 :: u128 :: u129 :: u130 :: u131 :: u132 :: u133 :: u134 :: u135 :: u136 :: u137 :: u138 :: u139 :: u140 :: u141 :: u142 :: u143 :: u144 :: u145 :: u146 :: .int .i64 (L : Int) :: v148 :: v149 :: v150 :: v151 :: v152 :: v153 :: v154 :: v155 :: v156 :: v157 :: v158 :: v159 :: v160 :: v161 :: v162 :: v163 :: u164 :: u165 :: u166 :: u167 :: u168 :: u169 :: u170 :: u171 :: u172 :: u173 :: u174 :: u175 :: u176 :: u177 :: u178 :: u179 :: u180 :: u181 :: u182 :: []), []⟩ w')) :
    Code.wp Ybaf.prog (loopAt 1 (Ybaf.f3.body.getD .skip)) Q ⟨List.toArray (u0 :: u1 :: u2 :: u3 :: u4 :: u5 :: u6 :: u7 :: u8 :: u9 :: u10 :: u11 :: u12 :: .slice aw n wc :: u14 :: .slice (some ⟨gd, 0, none⟩) dl dc :: u16 :: u17 :: u18 :: u19 :: u20 :: u21 :: .slice (some ⟨g, n, none⟩) L rc :: u23 :: u24 :: u25 :: u26 :: u27 :: u28 :: u29 :: u30 :: u31 :: u32 :: u33 :: u34 :: u35 :: u36 :: u37 :: u38 :: u39 :: u40 :: u41 :: u42 :: u43 :: u44 :: u45 :: u46 :: u47 :: u48 :: u49 :: u50 :: u51 :: u52 :: u53 :: u54 :: u55 :: u56 :: u57 :: u58 :: u59 :: u60 :: u61 :: u62 :: u63 :: u64 :: u65 :: u66 :: u67 :: u68 :: u69 :: u70 :: u71 :: u72 :: u73 :: u74 :: u75 :: u76 :: u77 :: u78 :: u79 :: u80 :: u81 :: u82 :: u83 :: u84 :: u85 :: u86 :: u87 :: u88 :: u89 :: u90 :: u91 :: u92 :: u93 :: u94 :: u95 :: u96 :: u97 :: u98 :: u99 :: u100 :: u101 :: u102 :: u103 :: u104 :: u105 :: u106 :: u107 :: u108 :: u109 :: u110 :: u111 :: u112 :: u113 :: u114 :: u115 :: u116 :: u117 :: u118 :: u119 :: u120 :: u121 :: u122 :: u123 :: u124 :: u125 :: u126 :: u127 :: u128 :: u129 :: u130 :: u131 :: u132 :: u133 :: u134 :: u135 :: u136 :: u137 :: u138 :: u139 :: u140 :: u141 :: u142 :: u143 :: u144 :: u145 :: u146 :: .int .i64 (L : Int) :: .int .i64 0 :: u149 :: u150 :: u151 :: u152 :: u153 :: u154 :: u155 :: u156 :: u157 :: u158 :: u159 :: u160 :: u161 :: u162 :: u163 :: u164 :: u165 :: u166 :: u167 :: u168 :: u169 :: u170 :: u171 :: u172 :: u173 :: u174 :: u175 :: u176 :: u177 :: u178 :: u179 :: u180 :: u181 :: u182 :: []), []⟩ w := by
  have A : Hid (dl = ds.length ∧ (∀ j, (h : j < ds.length) → w.cell? ⟨gd, j, none⟩ = some (byteV ds[j])) ∧ (∀ j, (h : j < ds.length) → j < n + L → w.cell? ⟨g, j, none⟩ = some (byteV ds[j]))) := ⟨hdl, hd, hb⟩
  clear hdl hd hb
  conv => arg 2; whnf
  go_loopg [148] L (fun k c wr => ∃ i : Nat, k + i = L ∧ c = .int .i64 (i : Int) ∧ Touch (fun _ => False) w wr)
  case atStart => exact ⟨0, by omega, rfl, Touch.refl _ _⟩
  case round =>
    obtain ⟨i, hki, rfl, hT⟩ := hrel
    obtain ⟨hdl, hd, hb⟩ := A.out
    by_cases hlt : i < L
    · have hd1 : decide ((i : Int) < (L : Int)) = true := by simp; omega
      have c1 := hT.cell (hd (n + i) (by omega)) (fun e => e)
      have c2 := hT.cell (hb (n + i) (by omega) (by omega)) (fun e => e)
      obtain ⟨y, hy⟩ : ∃ y : Int, byteV (ds[n + i]'(by omega)) = .int .u8 y := ⟨_, rfl⟩
      rw [hy] at c1 c2
      clear hy
      have b0 : (0 : Int) ≤ (i : Int) := by omega
      have b1 : (i : Int) < (L : Int) := by omega
      have b2 : (0 : Int) ≤ (n : Int) + (i : Int) := by omega
      have b3 : (n : Int) + (i : Int) < (dl : Int) := by omega
      have e1 : IntKind.i64.wrap ((n : Int) + (i : Int)) = (n : Int) + (i : Int) := by simp [IntKind.wrap, IntKind.bits, IntKind.signed]; omega
      have e2 : ((n : Int) + (i : Int)).toNat = n + i := by omega
      have HT : Hid (Touch (fun _ => False) w wr) := hT
      clear hT hd hb hdl
      go_wp2
      go_quiet (fail)
      have HT2 : Hid (Touch (fun _ => False) w (wr.drewN nq)) := HT.out.drewN nq
      clear c1 c2 HT
      go_wp2
      go_roundg (gk - 1)
      case measure => omega
      case rel => exact ⟨i + 1, by omega, rfl, HT2.out⟩
    · have hd1 : decide ((i : Int) < (L : Int)) = false := by simp; omega
      have HT : Hid (Touch (fun _ => False) w wr) := hT
      clear hT hd hb hdl
      go_wp2
      exact hQ.out _ _ _ _ _ _ _ _ _ _ _ _ _ _ _ _ _ _ _ HT.out
end Go.Proofs.YbulkbnmoFmt

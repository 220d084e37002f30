/-
  LawS3212AReads (3): its first loop: how many bytes of the word and of the data are the same. (The frames written out by program.)
-/
import Derived.Test.YbulkbnmoFmtLit
namespace Go.Proofs.YbulkbnmoFmt
open Go.RowKit
set_option linter.unusedVariables false

set_option maxRecDepth 100000 in
set_option maxHeartbeats 4000000 in
theorem law_loop1 {u0 u1 u2 u3 u4 u5 u6 u7 u8 u9 u10 u11 u12 u14 u16 u17 u18 u19 u21 u22 u23 u24 u25 u26 u27 u28 u29 u30 u31 u32 u33 u34 u35 u36 u37 u38 u39 u40 u41 u42 u43 u44 u45 u46 u47 u48 u49 u50 u51 u52 u53 u54 u55 u56 u57 u58 u59 u60 u61 u62 u63 u64 u65 u66 u67 u68 u69 u70 u71 u72 u73 u74 u75 u76 u77 u78 u79 u80 u81 u82 u83 u84 u85 u86 u87 u88 u89 u90 u91 u92 u93 u94 u95 u96 u97 u98 u99 u100 u101 u102 u103 u104 u105 u106 u107 u108 u109 u110 u111 u112 u113 u114 u115 u116 u117 u118 u119 u120 u121 u122 u123 u124 u125 u126 u127 u128 u129 u130 u131 u132 u133 u134 u135 u136 u137 u138 u139 u140 u141 u142 u143 u144 u145 u146 u147 u148 u149 u150 u151 u152 u153 u154 u155 u156 u157 u158 u159 u160 u161 u162 u163 u164 u165 u166 u167 u168 u169 u170 u171 u172 u173 u174 u175 u176 u177 u178 u179 u180 u181 u182 : Value} {Q : Exit → Act → World → Prop} (aw : Option Addr) (wl wc gd dl dc B : Nat) (ws ds : List UInt8) (w : World) (hwl : wl = ws.length) (hdl : dl = ds.length) (hdc : dl ≤ dc) (hdc2 : dc ≤ 4096) (hw : WordAt w aw wc ws B)
    (hd : ∀ j, (h : j < ds.length) → w.cell? ⟨gd, j, none⟩ = some (byteV ds[j]))
    (hQ : Hid (∀ (m : Nat) (v90 v91 v92 v93 v94 v95 v96 v97 v98 v99 v100 v101 v102 v103 v104 v105 v106 v107 v108 v109 v110 v111 v112 : Value) (w' : World), Common ws ds m → Touch (fun _ => False) w w' → Q (.exit 1) ⟨List.toArray (u0 :: u1 :: u2 :: u3 :: u4 :: u5 :: u6 :: u7 :: u8 :: u9 :: u10 :: u11 :: u12 :: .slice aw wl wc :: u14 :: .slice (some ⟨gd, 0, none⟩) dl dc :: u16 :: u17 :: u18 :: u19 :: .int .i64 (m : Int) :: u21 :: u22 :: u23 :: u24 :: u25 :: u26 :: u27 :: u28 :: u29 :: u30 :: u31 :: u32 :: u33 :: u34 :: u35 :: u36 :: u37 :: u38 :: u39 :: u40 :: u41 :: u42 :: u43 :: u44 :: u45 :: u46 :: u47 :: u48 :: u49 :: u50 :: u51 :: u52 :: u53 :: u54 :: u55 :: u56 :: u57 :: u58 :: u59 :: u60 :: u61 :: u62 :: u63 :: u64 :: u65 :: u66 :: u67 :: u68 :: u69 :: u70 :: u71 :: u72 :: u73 :: u74 :: u75 :: u76 :: u77 :: u78 :: u79 :: u80 :: u81 :: u82 :: u83 :: u84 :: u85 :: u86 :: u87 :: u88 :: u89 :: v90 :: v91 :: v92 :: v93 :: v94 :: v95 :: v96 :: v97 :: v98 :: v99 :: v100 :: v101 :: v102 :: v103 :: v104 :: v105 :: v106 :: v107 :: v108 :: v109 :: v110 :: v111 :: v112 :: u113 :: u114 :: u115 :: u116 :: u117 :: u118 :: u119 :: u120 :: u121 :: u122 :: u123 :: u124 :: u125 :: u126 :: u127 :: u128 :: u129 :: u130 :: u131 :: u132 :: u133 :: u134 :: u135 :: u136 :: u137 :: u138 :: u139 :: u140 :: u141 :: u142 :: u143 :: u144 :: u145 :: u146 :: u147 :: u148 :: u149 :: u150 :: u151 :: u152 :: u153 :: u154 :: u155 :: u156 :: u157 :: u158 :: u159 :: u160 :: u161 :: u162 :: u163 :: u164 :: u165 :: u166 :: u167 :: u168 :: u169 :: u170 :: u171 :: u172 :: u173 :: u174 :: u175 :: u176 :: u177 :: u178 :: u179 :: u180 :: u181 :: u182 :: []), []⟩ w')) :
    Code.wp Ybaf.prog (loopAt 0 (Ybaf.f3.body.getD .skip)) Q ⟨List.toArray (u0 :: u1 :: u2 :: u3 :: u4 :: u5 :: u6 :: u7 :: u8 :: u9 :: u10 :: u11 :: u12 :: .slice aw wl wc :: u14 :: .slice (some ⟨gd, 0, none⟩) dl dc :: u16 :: u17 :: u18 :: u19 :: .int .i64 0 :: u21 :: u22 :: u23 :: u24 :: u25 :: u26 :: u27 :: u28 :: u29 :: u30 :: u31 :: u32 :: u33 :: u34 :: u35 :: u36 :: u37 :: u38 :: u39 :: u40 :: u41 :: u42 :: u43 :: u44 :: u45 :: u46 :: u47 :: u48 :: u49 :: u50 :: u51 :: u52 :: u53 :: u54 :: u55 :: u56 :: u57 :: u58 :: u59 :: u60 :: u61 :: u62 :: u63 :: u64 :: u65 :: u66 :: u67 :: u68 :: u69 :: u70 :: u71 :: u72 :: u73 :: u74 :: u75 :: u76 :: u77 :: u78 :: u79 :: u80 :: u81 :: u82 :: u83 :: u84 :: u85 :: u86 :: u87 :: u88 :: u89 :: u90 :: u91 :: u92 :: u93 :: u94 :: u95 :: u96 :: u97 :: u98 :: u99 :: u100 :: u101 :: u102 :: u103 :: u104 :: u105 :: u106 :: u107 :: u108 :: u109 :: u110 :: u111 :: u112 :: u113 :: u114 :: u115 :: u116 :: u117 :: u118 :: u119 :: u120 :: u121 :: u122 :: u123 :: u124 :: u125 :: u126 :: u127 :: u128 :: u129 :: u130 :: u131 :: u132 :: u133 :: u134 :: u135 :: u136 :: u137 :: u138 :: u139 :: u140 :: u141 :: u142 :: u143 :: u144 :: u145 :: u146 :: u147 :: u148 :: u149 :: u150 :: u151 :: u152 :: u153 :: u154 :: u155 :: u156 :: u157 :: u158 :: u159 :: u160 :: u161 :: u162 :: u163 :: u164 :: u165 :: u166 :: u167 :: u168 :: u169 :: u170 :: u171 :: u172 :: u173 :: u174 :: u175 :: u176 :: u177 :: u178 :: u179 :: u180 :: u181 :: u182 :: []), []⟩ w := by
  have hwc := hw.1
  have hwc2 := hw.2.1
  have A : Hid (dl = ds.length ∧ wl = ws.length ∧ (∀ j, (h : j < ds.length) → w.cell? ⟨gd, j, none⟩ = some (byteV ds[j])) ∧ WordAt w aw wc ws B) := ⟨hdl, hwl, hd, hw⟩
  have h1 : wl ≤ wc := by omega
  clear hdl hd hwl hw hwc
  conv => arg 2; whnf
  go_loopg [20] wl (fun k c wr => ∃ i : Nat, k + i = wl ∧ i ≤ dl ∧ c = .int .i64 (i : Int) ∧ (∀ j, (h1 : j < ws.length) → (h2 : j < ds.length) → j < i → ws[j] = ds[j]) ∧ Touch (fun _ => False) w wr)
  case atStart => exact ⟨0, by omega, by omega, rfl, by intro j _ _ h; omega, Touch.refl _ _⟩
  case round =>
    obtain ⟨i, hki, hil, rfl, hsame, hT⟩ := hrel
    obtain ⟨hdl, hwl, hd, hw⟩ := A.out
    have HS : Hid ((∀ j, (h1 : j < ws.length) → (h2 : j < ds.length) → j < i → ws[j] = ds[j]) ∧ Touch (fun _ => False) w wr) := ⟨hsame, hT⟩
    by_cases hlt : i < wl
    · by_cases hld : i < dl
      · have hd1 : decide ((i : Int) < (wl : Int)) = true := by simp; omega
        have hd2 : decide ((i : Int) < (dl : Int)) = true := by simp; omega
        obtain ⟨gw, rfl, _, hwb⟩ := hw.2.2 (by omega)
        have c1 := hT.cell (hd i (by omega)) (fun e => e)
        have c2 := hT.cell (hwb i (by omega)) (fun e => e)
        by_cases hxy : ws[i]'(by omega) = ds[i]'(by omega)
        · have HX : Hid (∀ (h1 : i < ws.length) (h2 : i < ds.length), ws[i] = ds[i]) := fun _ _ => hxy
          rw [hxy] at c2
          obtain ⟨y, hy⟩ : ∃ y : Int, byteV (ds[i]'(by omega)) = .int .u8 y := ⟨_, rfl⟩
          rw [hy] at c1 c2
          have b0 : (0 : Int) ≤ (i : Int) := by omega
          have b1 : (i : Int) < (wl : Int) := by omega
          have b2 : (i : Int) < (dl : Int) := by omega
          clear hT hd hdl hwl hw hwb hsame hxy hy
          go_wp2
          go_quiet (fail)
          clear c1 c2
          go_wp2
          go_roundg (gk - 1)
          case measure => omega
          case rel =>
            refine ⟨i + 1, by omega, by omega, rfl, ?_, HS.out.2.drewN _⟩
            intro j h1 h2 h3
            by_cases hj : j = i
            · subst hj; exact HX.out h1 h2
            · exact HS.out.1 j h1 h2 (by omega)
        · have HX : Hid (∀ (h1 : i < ws.length) (h2 : i < ds.length), ws[i] ≠ ds[i]) := fun _ _ => hxy
          have e3 := byte_neq _ _ (fun e => hxy e.symm)
          simp only [byteV] at c1 c2
          generalize ((ds[i]'(by omega)).toNat : Int) = y at c1 e3
          generalize ((ws[i]'(by omega)).toNat : Int) = x at c2 e3
          have b0 : (0 : Int) ≤ (i : Int) := by omega
          have b1 : (i : Int) < (wl : Int) := by omega
          have b2 : (i : Int) < (dl : Int) := by omega
          clear hT hd hdl hwl hw hwb hsame hxy
          go_wp2
          go_quiet (fail)
          clear c1 c2
          go_wp2
          exact hQ.out i _ _ _ _ _ _ _ _ _ _ _ _ _ _ _ _ _ _ _ _ _ _ _ _ (by have := A.out.1; have := A.out.2.1; exact ⟨by omega, by omega, fun j h1 h2 h3 => HS.out.1 j h1 h2 h3, HX.out⟩) (HS.out.2.drewN _)
      · have hd1 : decide ((i : Int) < (wl : Int)) = true := by simp; omega
        have hd2 : decide ((i : Int) < (dl : Int)) = false := by simp; omega
        clear hT hd hdl hwl hw hsame
        go_wp2
        go_quiet (fail)
        go_wp2
        exact hQ.out i _ _ _ _ _ _ _ _ _ _ _ _ _ _ _ _ _ _ _ _ _ _ _ _ (by have := A.out.1; have := A.out.2.1; exact ⟨by omega, by omega, fun j h1 h2 h3 => HS.out.1 j h1 h2 h3, fun h1 h2 => by omega⟩) (HS.out.2.drewN _)
    · have hd1 : decide ((i : Int) < (wl : Int)) = false := by simp; omega
      clear hT hd hdl hwl hw hsame
      go_wp2
      go_quiet (fail)
      go_wp2
      exact hQ.out i _ _ _ _ _ _ _ _ _ _ _ _ _ _ _ _ _ _ _ _ _ _ _ _ (by have := A.out.1; have := A.out.2.1; exact ⟨by omega, by omega, fun j h1 h2 h3 => HS.out.1 j h1 h2 h3, fun h1 h2 => by omega⟩) (HS.out.2.drewN _)
end Go.Proofs.YbulkbnmoFmt

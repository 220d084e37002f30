/-
  LawS3212AReads (3): what follows the call of literal. (The frames written out by program.)
-/
import Derived.Test.YbulkbnmoFmtLawA
import Derived.Test.YbulkbnmoFmtLawB
import Derived.Test.YbulkbnmoFmtIs
namespace Go.Proofs.YbulkbnmoFmt
open Go.RowKit
set_option linter.unusedVariables false

def starts (i : Nat) : Code → Bool
  | .region id _ _ => id == i
  | .seq a _ => starts i a
  | _ => false
/-- What follows region i, itself among it, in a row of statements. -/
def tailFrom (i : Nat) : Code → Code
  | .seq a b => if starts i a then .seq a b else tailFrom i b
  | c => c

set_option maxRecDepth 100000 in
set_option maxHeartbeats 4000000 in
theorem tail28_yes {u0 u1 u2 u3 u4 u6 u7 u8 u9 u10 u11 u12 u14 u17 u18 u22 u23 u24 u25 u26 u27 u28 u29 u30 u31 u32 u33 u34 u35 u36 u37 u38 u39 u40 u41 u42 u43 u44 u45 u46 u47 u48 u49 u50 u51 u52 u53 u54 u55 u56 u57 u58 u59 u60 u61 u62 u63 u64 u65 u66 u67 u68 u69 u70 u71 u72 u73 u74 u75 u76 u77 u78 u79 u80 u81 u82 u83 u84 u85 u86 u87 u88 u89 u90 u91 u92 u93 u94 u95 u96 u97 u98 u99 u100 u101 u102 u103 u104 u105 u106 u107 u108 u109 u110 u111 u112 u113 u114 u115 u116 u117 u118 u119 u120 u121 u122 u123 u124 u125 u126 u127 u128 u129 u130 u131 u132 u133 u134 u135 u136 u137 u138 u139 u140 u141 u142 u143 u144 u145 u146 u147 u148 u149 u150 u151 u152 u153 u154 u155 u156 u157 u158 u159 u160 u161 u162 u163 u164 u165 u166 u167 u168 u169 u170 u171 u172 u173 u174 u175 u176 u177 u178 u179 u180 u181 u182 : Value} (w0 : World) (fl : Bool) (fe : Addr) (aw : Option Addr) (wl wc gd dl dc bi br g t cap m : Nat) (ws ds : List UInt8) (w1 w : World) (hwl : wl = ws.length) (hdl : dl = ds.length) (hm : m = wl) (hdc : dl ≤ dc) (hdc2 : dc ≤ 4096)
    (hd : ∀ j, (h : j < ds.length) → w.cell? ⟨gd, j, none⟩ = some (byteV ds[j])) (hL : LitOk w1 w bi br ds m t g cap) (hT : Touch (fun _ => False) w0 w) :
    Code.wp Ybaf.prog (tailFrom 28 (Ybaf.f3.body.getD .skip)) (bodyPost Ybaf.prog Ybaf.f3 (fun e w' => e = .returned (.bool true) ∧ Touch (fun _ => False) w0 w')) ⟨List.toArray (u0 :: u1 :: u2 :: u3 :: u4 :: .bool fl :: u6 :: u7 :: u8 :: u9 :: u10 :: u11 :: u12 :: .slice aw wl wc :: u14 :: .slice (some ⟨gd, 0, none⟩) dl dc :: .iface 44 (.pointer (some fe)) :: u17 :: u18 :: .pointer (some ⟨bi, 0, none⟩) :: .int .i64 (m : Int) :: .nilIface :: u22 :: u23 :: u24 :: u25 :: u26 :: u27 :: u28 :: u29 :: u30 :: u31 :: u32 :: u33 :: u34 :: u35 :: u36 :: u37 :: u38 :: u39 :: u40 :: u41 :: u42 :: u43 :: u44 :: u45 :: u46 :: u47 :: u48 :: u49 :: u50 :: u51 :: u52 :: u53 :: u54 :: u55 :: u56 :: u57 :: u58 :: u59 :: u60 :: u61 :: u62 :: u63 :: u64 :: u65 :: u66 :: u67 :: u68 :: u69 :: u70 :: u71 :: u72 :: u73 :: u74 :: u75 :: u76 :: u77 :: u78 :: u79 :: u80 :: u81 :: u82 :: u83 :: u84 :: u85 :: u86 :: u87 :: u88 :: u89 :: u90 :: u91 :: u92 :: u93 :: u94 :: u95 :: u96 :: u97 :: u98 :: u99 :: u100 :: u101 :: u102 :: u103 :: u104 :: u105 :: u106 :: u107 :: u108 :: u109 :: u110 :: u111 :: u112 :: u113 :: u114 :: u115 :: u116 :: u117 :: u118 :: u119 :: u120 :: u121 :: u122 :: u123 :: u124 :: u125 :: u126 :: u127 :: u128 :: u129 :: u130 :: u131 :: u132 :: u133 :: u134 :: u135 :: u136 :: u137 :: u138 :: u139 :: u140 :: u141 :: u142 :: u143 :: u144 :: u145 :: u146 :: u147 :: u148 :: u149 :: u150 :: u151 :: u152 :: u153 :: u154 :: u155 :: u156 :: u157 :: u158 :: u159 :: u160 :: u161 :: u162 :: u163 :: u164 :: u165 :: u166 :: u167 :: u168 :: u169 :: u170 :: u171 :: u172 :: u173 :: u174 :: u175 :: u176 :: u177 :: u178 :: u179 :: u180 :: u181 :: u182 :: []), []⟩ w := by
  subst hm
  have hle := hL.le
  obtain ⟨L, rfl⟩ : ∃ L, t = m + L := ⟨t - m, by omega⟩
  have c1 := hL.buf
  have c2 := hL.pos
  have A : Hid (dl = ds.length ∧ (∀ j, (h : j < ds.length) → w.cell? ⟨gd, j, none⟩ = some (byteV ds[j])) ∧ LitOk w1 w bi br ds m (m + L) g cap ∧ Touch (fun _ => False) w0 w) := ⟨hdl, hd, hL, hT⟩
  have b1 : m ≤ dl := by omega
  have b2 : L ≤ dl - m := by omega
  clear hdl hd hL hT hwl
  conv => arg 2; whnf
  go_wp2_with fail
  refine (offset_any bi m w (by exact c2) (by exact A.out.2.2.1.off) (by omega)).mono ?_
  rintro e w2 ⟨rfl, n2, rfl⟩
  have b3 : (m : Int) ≤ (cap : Int) := by omega
  have b4 : (m : Int) ≤ (m : Int) + (L : Int) := by omega
  have b5 : (0 : Int) ≤ (m : Int) := by omega
  have b6 : ¬ cap = m := by omega
  have b7 : m ≤ m + L := by omega
  go_wp2_with fail
  go_quiet (fail)
  go_wp2_with fail
  refine law_loop2 aw m wc gd dl dc g L (cap - m) ds _ A.out.1 (by omega) hdc hdc2 (by omega) (by exact A.out.2.1) (by exact A.out.2.2.1.bytes) ?_
  intro v12 v23 v148 v149 v150 v151 v152 v153 v154 v155 v156 v157 v158 v159 v160 v161 v162 v163 w2 hT2
  have HT : Hid (Touch (fun _ => False) w0 w2) := (A.out.2.2.2.drewN _).trans ((Touch.refl _ _).next hT2 (fun _ _ e => e.elim))
  clear hT2 c1 c2
  go_wp2
  go_ret
  exact ⟨rfl, HT.out⟩

set_option maxRecDepth 100000 in
set_option maxHeartbeats 4000000 in
theorem tail28_new {u0 u1 u2 u3 u4 u6 u7 u8 u9 u10 u11 u12 u14 u17 u18 u22 u23 u24 u25 u26 u27 u28 u29 u30 u31 u32 u33 u34 u35 u36 u37 u38 u39 u40 u41 u42 u43 u44 u45 u46 u47 u48 u49 u50 u51 u52 u53 u54 u55 u56 u57 u58 u59 u60 u61 u62 u63 u64 u65 u66 u67 u68 u69 u70 u71 u72 u73 u74 u75 u76 u77 u78 u79 u80 u81 u82 u83 u84 u85 u86 u87 u88 u89 u90 u91 u92 u93 u94 u95 u96 u97 u98 u99 u100 u101 u102 u103 u104 u105 u106 u107 u108 u109 u110 u111 u112 u113 u114 u115 u116 u117 u118 u119 u120 u121 u122 u123 u124 u125 u126 u127 u128 u129 u130 u131 u132 u133 u134 u135 u136 u137 u138 u139 u140 u141 u142 u143 u144 u145 u146 u147 u148 u149 u150 u151 u152 u153 u154 u155 u156 u157 u158 u159 u160 u161 u162 u163 u164 u165 u166 u167 u168 u169 u170 u171 u172 u173 u174 u175 u176 u177 u178 u179 u180 u181 u182 : Value} (w0 : World) (fl : Bool) (fe : Addr) (aw : Option Addr) (wl wc gd dl dc bi br H m : Nat) (s1 s3 : ByteArray) (w1 w : World) (hm : m < wl) (hml : m ≤ dl) (hwc : wl ≤ 4096) (hdc : dl ≤ dc) (hdc2 : dc ≤ 4096)
    (hor : m < dl ∨ fl = false) (hL : LitNot w1 w bi br H) (hH : w.heap[H]? = some (.cells #[.string s3] 46 (0, 0))) (hfe : w.heap[fe.block]? = some (.cells #[.string s1] 46 (0, 0))) (hne : fe.block ≠ H) (hT : Touch (fun _ => False) w0 w) :
    Code.wp Ybaf.prog (tailFrom 28 (Ybaf.f3.body.getD .skip)) (bodyPost Ybaf.prog Ybaf.f3 (fun e w' => e = .returned (.bool true) ∧ Touch (fun _ => False) w0 w')) ⟨List.toArray (u0 :: u1 :: u2 :: u3 :: u4 :: .bool fl :: u6 :: u7 :: u8 :: u9 :: u10 :: u11 :: u12 :: .slice aw wl wc :: u14 :: .slice (some ⟨gd, 0, none⟩) dl dc :: .iface 44 (.pointer (some fe)) :: u17 :: u18 :: .pointer (some ⟨bi, 0, none⟩) :: .int .i64 (m : Int) :: .iface 44 (.pointer (some ⟨H, 0, none⟩)) :: u22 :: u23 :: u24 :: u25 :: u26 :: u27 :: u28 :: u29 :: u30 :: u31 :: u32 :: u33 :: u34 :: u35 :: u36 :: u37 :: u38 :: u39 :: u40 :: u41 :: u42 :: u43 :: u44 :: u45 :: u46 :: u47 :: u48 :: u49 :: u50 :: u51 :: u52 :: u53 :: u54 :: u55 :: u56 :: u57 :: u58 :: u59 :: u60 :: u61 :: u62 :: u63 :: u64 :: u65 :: u66 :: u67 :: u68 :: u69 :: u70 :: u71 :: u72 :: u73 :: u74 :: u75 :: u76 :: u77 :: u78 :: u79 :: u80 :: u81 :: u82 :: u83 :: u84 :: u85 :: u86 :: u87 :: u88 :: u89 :: u90 :: u91 :: u92 :: u93 :: u94 :: u95 :: u96 :: u97 :: u98 :: u99 :: u100 :: u101 :: u102 :: u103 :: u104 :: u105 :: u106 :: u107 :: u108 :: u109 :: u110 :: u111 :: u112 :: u113 :: u114 :: u115 :: u116 :: u117 :: u118 :: u119 :: u120 :: u121 :: u122 :: u123 :: u124 :: u125 :: u126 :: u127 :: u128 :: u129 :: u130 :: u131 :: u132 :: u133 :: u134 :: u135 :: u136 :: u137 :: u138 :: u139 :: u140 :: u141 :: u142 :: u143 :: u144 :: u145 :: u146 :: u147 :: u148 :: u149 :: u150 :: u151 :: u152 :: u153 :: u154 :: u155 :: u156 :: u157 :: u158 :: u159 :: u160 :: u161 :: u162 :: u163 :: u164 :: u165 :: u166 :: u167 :: u168 :: u169 :: u170 :: u171 :: u172 :: u173 :: u174 :: u175 :: u176 :: u177 :: u178 :: u179 :: u180 :: u181 :: u182 :: []), []⟩ w := by
  have A : Hid (Touch (fun _ => False) w0 w ∧ LitNot w1 w bi br H ∧ w.heap[H]? = some (.cells #[.string s3] 46 (0, 0)) ∧ w.heap[fe.block]? = some (.cells #[.string s1] 46 (0, 0)) ∧ fe.block ≠ H) := ⟨hT, hL, hH, hfe, hne⟩
  have e1 : ((m : Int) == (wl : Int)) = false := beq_eq_false_iff_ne.2 (by omega)
  clear hT hL hH hfe hne
  conv => arg 2; whnf
  go_wp2_with fail
  refine (offset_any bi 0 w (by exact A.out.2.1.pos) (by exact A.out.2.1.off) (by omega)).mono ?_
  rintro e w2 ⟨rfl, n2, rfl⟩
  go_wp2_with fail
  refine (is_other ⟨H, 0, none⟩ fe _ _ _ _ _ (fun e => A.out.2.2.2.2 (by rw [← e])) (by exact A.out.2.2.1) (by exact A.out.2.2.2.1)).mono ?_
  rintro e w3 ⟨rfl, rfl⟩
  have HT : Hid (Touch (fun _ => False) w0 (w.drewN n2)) := A.out.1.drewN _
  clear A
  by_cases hmd : m = dl
  · obtain rfl : fl = false := by
      rcases hor with h | h
      · omega
      · exact h
    have e2 : ((m : Int) == (dl : Int)) = true := by rw [hmd]; simp
    clear hor hmd
    go_wp2
    go_ret
    exact ⟨rfl, HT.out⟩
  · have e2 : ((m : Int) == (dl : Int)) = false := beq_eq_false_iff_ne.2 (by omega)
    clear hor hmd
    go_wp2
    go_ret
    exact ⟨rfl, HT.out⟩

set_option maxRecDepth 100000 in
set_option maxHeartbeats 4000000 in
theorem tail28_wrap {u0 u1 u2 u3 u4 u6 u7 u8 u9 u10 u11 u12 u14 u17 u18 u22 u23 u24 u25 u26 u27 u28 u29 u30 u31 u32 u33 u34 u35 u36 u37 u38 u39 u40 u41 u42 u43 u44 u45 u46 u47 u48 u49 u50 u51 u52 u53 u54 u55 u56 u57 u58 u59 u60 u61 u62 u63 u64 u65 u66 u67 u68 u69 u70 u71 u72 u73 u74 u75 u76 u77 u78 u79 u80 u81 u82 u83 u84 u85 u86 u87 u88 u89 u90 u91 u92 u93 u94 u95 u96 u97 u98 u99 u100 u101 u102 u103 u104 u105 u106 u107 u108 u109 u110 u111 u112 u113 u114 u115 u116 u117 u118 u119 u120 u121 u122 u123 u124 u125 u126 u127 u128 u129 u130 u131 u132 u133 u134 u135 u136 u137 u138 u139 u140 u141 u142 u143 u144 u145 u146 u147 u148 u149 u150 u151 u152 u153 u154 u155 u156 u157 u158 u159 u160 u161 u162 u163 u164 u165 u166 u167 u168 u169 u170 u171 u172 u173 u174 u175 u176 u177 u178 u179 u180 u181 u182 : Value} (w0 : World) (fe : Addr) (aw : Option Addr) (wl wc gd dl dc bi br H m : Nat) (s3 : ByteArray) (w1 w : World) (hm : m < wl) (hml : m = dl) (hwc : wl ≤ 4096) (hdc : dl ≤ dc) (hdc2 : dc ≤ 4096)
    (hL : LitNot w1 w bi br H) (hH : w.heap[H]? = some (.cells #[.string s3, .iface 44 (.pointer (some fe))] 98 (0, 0))) (hT : Touch (fun _ => False) w0 w) :
    Code.wp Ybaf.prog (tailFrom 28 (Ybaf.f3.body.getD .skip)) (bodyPost Ybaf.prog Ybaf.f3 (fun e w' => e = .returned (.bool true) ∧ Touch (fun _ => False) w0 w')) ⟨List.toArray (u0 :: u1 :: u2 :: u3 :: u4 :: .bool true :: u6 :: u7 :: u8 :: u9 :: u10 :: u11 :: u12 :: .slice aw wl wc :: u14 :: .slice (some ⟨gd, 0, none⟩) dl dc :: .iface 44 (.pointer (some fe)) :: u17 :: u18 :: .pointer (some ⟨bi, 0, none⟩) :: .int .i64 (m : Int) :: .iface 70 (.pointer (some ⟨H, 0, none⟩)) :: u22 :: u23 :: u24 :: u25 :: u26 :: u27 :: u28 :: u29 :: u30 :: u31 :: u32 :: u33 :: u34 :: u35 :: u36 :: u37 :: u38 :: u39 :: u40 :: u41 :: u42 :: u43 :: u44 :: u45 :: u46 :: u47 :: u48 :: u49 :: u50 :: u51 :: u52 :: u53 :: u54 :: u55 :: u56 :: u57 :: u58 :: u59 :: u60 :: u61 :: u62 :: u63 :: u64 :: u65 :: u66 :: u67 :: u68 :: u69 :: u70 :: u71 :: u72 :: u73 :: u74 :: u75 :: u76 :: u77 :: u78 :: u79 :: u80 :: u81 :: u82 :: u83 :: u84 :: u85 :: u86 :: u87 :: u88 :: u89 :: u90 :: u91 :: u92 :: u93 :: u94 :: u95 :: u96 :: u97 :: u98 :: u99 :: u100 :: u101 :: u102 :: u103 :: u104 :: u105 :: u106 :: u107 :: u108 :: u109 :: u110 :: u111 :: u112 :: u113 :: u114 :: u115 :: u116 :: u117 :: u118 :: u119 :: u120 :: u121 :: u122 :: u123 :: u124 :: u125 :: u126 :: u127 :: u128 :: u129 :: u130 :: u131 :: u132 :: u133 :: u134 :: u135 :: u136 :: u137 :: u138 :: u139 :: u140 :: u141 :: u142 :: u143 :: u144 :: u145 :: u146 :: u147 :: u148 :: u149 :: u150 :: u151 :: u152 :: u153 :: u154 :: u155 :: u156 :: u157 :: u158 :: u159 :: u160 :: u161 :: u162 :: u163 :: u164 :: u165 :: u166 :: u167 :: u168 :: u169 :: u170 :: u171 :: u172 :: u173 :: u174 :: u175 :: u176 :: u177 :: u178 :: u179 :: u180 :: u181 :: u182 :: []), []⟩ w := by
  have A : Hid (Touch (fun _ => False) w0 w ∧ LitNot w1 w bi br H ∧ w.heap[H]? = some (.cells #[.string s3, .iface 44 (.pointer (some fe))] 98 (0, 0))) := ⟨hT, hL, hH⟩
  have e1 : ((m : Int) == (wl : Int)) = false := beq_eq_false_iff_ne.2 (by omega)
  have e2 : ((m : Int) == (dl : Int)) = true := by rw [hml]; simp
  clear hT hL hH hml
  conv => arg 2; whnf
  go_wp2_with fail
  refine (offset_any bi 0 w (by exact A.out.2.1.pos) (by exact A.out.2.1.off) (by omega)).mono ?_
  rintro e w2 ⟨rfl, n2, rfl⟩
  go_wp2_with fail
  refine (is_wrap_same H 0 fe _ (by exact (cell_of_row w H 1 _ _ _ A.out.2.2).trans rfl)).mono ?_
  rintro e w3 ⟨rfl, rfl⟩
  have HT : Hid (Touch (fun _ => False) w0 (w.drewN n2)) := A.out.1.drewN _
  clear A
  go_wp2
  go_ret
  exact ⟨rfl, HT.out⟩
end Go.Proofs.YbulkbnmoFmt

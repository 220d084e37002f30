/-
  'newInput' (5); LawS3212AReads (3) from the call of errors.New on. (The frames written out by program.)
-/
import Derived.Test.YbulkbnmoFmtLawD
namespace Go.Proofs.YbulkbnmoFmt
open Go.RowKit Go.Extern.Stop Go.Stop Go.Extern
set_option linter.unusedVariables false

/-- 16384 zero bytes. -/
def zrow16 : List Value := List.replicate 16384 (.int .u8 0)
theorem zrow16_len : zrow16.length = 16384 := List.length_replicate
theorem make16 (w : World) : (Instr.makeSlice 22 (.int .i64 0) (.int .i64 16384)).run Ybaf.prog w = .ok (.slice (some ⟨w.heap.size, 0, none⟩) 0 16384) (w.alloc (.cells zrow16.toArray 5)) := by
  obtain ⟨i0, hi0, hz0, hz1, hz2⟩ := info_parts info5
  have hr := run_make (P := Ybaf.prog) w 22 5 i0 (.int .u8 0) Ybaf.underlying22 hi0 hz0 .i64 .i64 0 16384 (by omega) (by omega) (by rw [hz2]; omega) (by omega)
  rw [hz1] at hr
  have e : (madeCells (Value.int .u8 0).cells ((16384 : Int).toNat * 1)) = zrow16.toArray := by
    apply Array.ext'
    show (madeCells #[Value.int .u8 0] ((16384 : Int).toNat * 1)).toList = _
    rw [toList_madeCells_one]
    rfl
  rw [e] at hr
  exact hr

/-- The new input's cells. -/
def inCells (br g : Nat) : Array Value := #[.iface 27 (.pointer (some ⟨br, 0, none⟩)), .slice (some ⟨g, 0, none⟩) 0 16384, .int .i64 0, .int .i64 0, .nilIface, .slice none 0 0, .slice none 0 0, .slice none 0 0, .pointer none, .int .u64 0]

theorem newInput_any (br : Nat) (w : World) : Calls Ybaf.prog 5 #[.iface 27 (.pointer (some ⟨br, 0, none⟩))] w fun e w' => e = .returned (.pointer (some ⟨w.heap.size + 1, 0, none⟩)) ∧ w' = (w.alloc (.cells zrow16.toArray 5)).alloc (.cells (inCells br w.heap.size) 41) := by
  have mk := make16
  go_enter Ybaf.func5, Ybaf.ntmps5
  go_wp2
  go_ret
  exact ⟨rfl, rfl⟩

theorem in_new (w : World) (br gd dc ch : Nat) (ds : List UInt8) (fv : Value) (h : RdAt w br gd dc ch ds fv 0) (ho : gd < br) :
    InAt ((w.alloc (.cells zrow16.toArray 5)).alloc (.cells (inCells br w.heap.size) 41)) (w.heap.size + 1) br gd dc ch ds fv 0 w.heap.size 16384 .nilIface := by
  have hT : Touch (fun _ => False) w ((w.alloc (.cells zrow16.toArray 5)).alloc (.cells (inCells br w.heap.size) 41)) := ((Touch.refl _ w).alloc _).alloc _
  have hn := heap_alloc_new (w.alloc (.cells zrow16.toArray 5)) (.cells (inCells br w.heap.size) 41)
  rw [World.size_alloc] at hn
  have hz : ((w.alloc (.cells zrow16.toArray 5)).alloc (.cells (inCells br w.heap.size) 41)).heap[w.heap.size]? = some (.cells zrow16.toArray 5) := (Below.heap_alloc _ _ _ (by simp)).trans (heap_alloc_new w _)
  have hb := World.block_lt_of_cell? w _ h.data
  refine ⟨h.touch hT (fun e => e) (fun e => e), (cell_of_row _ _ 0 _ _ _ hn).trans rfl, (cell_of_row _ _ 1 _ _ _ hn).trans rfl, (cell_of_row _ _ 2 _ _ _ hn).trans rfl, (cell_of_row _ _ 3 _ _ _ hn).trans rfl, (cell_of_row _ _ 4 _ _ _ hn).trans rfl, fun o => frozen_of_row _ _ o _ _ hn, ⟨zrow16, hz, zrow16_len, by rw [List.take_zero, List.take_zero]; rfl⟩, by omega, ho, by simp at hb; omega⟩

/-- The new reader's cells. -/
def rdCells (gd dl dc ch : Nat) (fv : Value) : Array Value := #[.slice (some ⟨gd, 0, none⟩) dl dc, .int .i64 0, .int .i64 (ch : Int), fv]

theorem rd_new (w : World) (gd dc ch : Nat) (ds : List UInt8) (fv : Value) (hd : ∀ j, (h : j < ds.length) → w.cell? ⟨gd, j, none⟩ = some (byteV ds[j])) (h1 : ds.length ≤ dc) (h2 : dc ≤ 4096) (h3 : 1 ≤ ch ∧ ch ≤ 8) :
    RdAt (w.alloc (.cells (rdCells gd ds.length dc ch fv) 29)) w.heap.size gd dc ch ds fv 0 := by
  have hn := heap_alloc_new w (.cells (rdCells gd ds.length dc ch fv) 29)
  exact ⟨(cell_of_row _ _ 0 _ _ _ hn).trans rfl, (cell_of_row _ _ 1 _ _ _ hn).trans rfl, (cell_of_row _ _ 2 _ _ _ hn).trans rfl, (cell_of_row _ _ 3 _ _ _ hn).trans rfl, frozen_of_row _ _ 1 _ _ hn, fun j hj => cell_alloc (hd j hj) _, h1, by omega⟩

def failS : ByteArray := ⟨#[122, 122, 32, 114, 101, 97, 100, 32, 102, 97, 105, 108, 117, 114, 101]⟩

/-- The four new blocks: the failure, the reader, the first buffer, the input. -/
def made4 (w : World) (gd dl dc ch : Nat) (fv : Value) : World := (((w.alloc (.cells #[.string failS] 46)).alloc (.cells (rdCells gd dl dc ch fv) 29)).alloc (.cells zrow16.toArray 5)).alloc (.cells (inCells (w.heap.size + 1) (w.heap.size + 2)) 41)

theorem tail18_end {u0 u1 u2 u3 u4 u6 u7 u8 u9 u10 u11 u12 u14 u17 u18 u20 u21 u22 u23 u24 u25 u26 u27 u28 u29 u30 u31 u32 u33 u34 u35 u36 u37 u38 u39 u40 u41 u42 u43 u44 u45 u46 u47 u48 u49 u50 u51 u52 u53 u54 u55 u56 u57 u58 u59 u60 u61 u62 u63 u64 u65 u66 u67 u68 u69 u70 u71 u72 u73 u74 u75 u76 u77 u78 u79 u80 u81 u82 u83 u84 u85 u86 u87 u88 u89 u90 u91 u92 u93 u94 u95 u96 u97 u98 u99 u100 u101 u102 u103 u104 u105 u106 u107 u108 u109 u110 u111 u112 u113 u114 u115 u116 u117 u118 u119 u120 u121 u122 u123 u124 u125 u126 u127 u128 u129 u130 u131 u132 u133 u134 u135 u136 u137 u138 u139 u140 u141 u142 u143 u144 u145 u146 u147 u148 u149 u150 u151 u152 u153 u154 u155 u156 u157 u158 u159 u160 u161 u162 u163 u164 u165 u166 u167 u168 u169 u170 u171 u172 u173 u174 u175 u176 u177 u178 u179 u180 u181 u182 : Value} (w0 : World) (F : Interp) (fl : Bool) (ea : Addr) (aw : Option Addr) (wl wc gd dl dc ch : Nat) (s2 : ByteArray) (ws ds : List UInt8) {ce : Array Value} {te : TypeId} (w : World) (hwl : wl = ws.length) (hdl : dl = ds.length) (hF : F.answers w.tape)
    (hw : WordAt w aw wc ws w.heap.size) (hg : w.cell? ⟨0, 0, none⟩ = some (.iface 44 (.pointer (some ea)))) (hea : w.heap[ea.block]? = some (.cells ce te (0, 0))) (hec : w.cell? ea = some (.string s2))
    (hd : ∀ j, (h : j < ds.length) → w.cell? ⟨gd, j, none⟩ = some (byteV ds[j])) (hgd : gd < w.heap.size) (hdc : dl ≤ dc) (hdc2 : dc ≤ 4096) (hch : ch < 8) (hT : Touch (fun _ => False) w0 w) :
    Code.wp Ybaf.prog (tailFrom 24 (Ybaf.f3.body.getD .skip)) (bodyPost Ybaf.prog Ybaf.f3 (fun e w' => e = .returned (.bool true) ∧ Touch (fun _ => False) w0 w')) ⟨List.toArray (u0 :: u1 :: u2 :: u3 :: u4 :: .bool fl :: u6 :: u7 :: u8 :: u9 :: u10 :: u11 :: u12 :: .slice aw wl wc :: u14 :: .slice (some ⟨gd, 0, none⟩) dl dc :: .iface 44 (.pointer (some ⟨w.heap.size, 0, none⟩)) :: u17 :: u18 :: .pointer (some ⟨w.heap.size + 3, 0, none⟩) :: u20 :: u21 :: u22 :: u23 :: u24 :: u25 :: u26 :: u27 :: u28 :: u29 :: u30 :: u31 :: u32 :: u33 :: u34 :: u35 :: u36 :: u37 :: u38 :: u39 :: u40 :: u41 :: u42 :: u43 :: u44 :: u45 :: u46 :: u47 :: u48 :: u49 :: u50 :: u51 :: u52 :: u53 :: u54 :: u55 :: u56 :: u57 :: u58 :: u59 :: u60 :: u61 :: u62 :: u63 :: u64 :: u65 :: u66 :: u67 :: u68 :: u69 :: u70 :: u71 :: u72 :: u73 :: u74 :: u75 :: u76 :: u77 :: u78 :: u79 :: u80 :: u81 :: u82 :: u83 :: u84 :: u85 :: u86 :: u87 :: u88 :: u89 :: u90 :: u91 :: u92 :: u93 :: u94 :: u95 :: u96 :: u97 :: u98 :: u99 :: u100 :: u101 :: u102 :: u103 :: u104 :: u105 :: u106 :: u107 :: u108 :: u109 :: u110 :: u111 :: u112 :: u113 :: u114 :: u115 :: u116 :: u117 :: u118 :: u119 :: u120 :: u121 :: u122 :: u123 :: u124 :: u125 :: u126 :: u127 :: u128 :: u129 :: u130 :: u131 :: u132 :: u133 :: u134 :: u135 :: u136 :: u137 :: u138 :: u139 :: u140 :: u141 :: u142 :: u143 :: u144 :: u145 :: u146 :: u147 :: u148 :: u149 :: u150 :: u151 :: u152 :: u153 :: u154 :: u155 :: u156 :: u157 :: u158 :: u159 :: u160 :: u161 :: u162 :: u163 :: u164 :: u165 :: u166 :: u167 :: u168 :: u169 :: u170 :: u171 :: u172 :: u173 :: u174 :: u175 :: u176 :: u177 :: u178 :: u179 :: u180 :: u181 :: u182 :: []), []⟩ (made4 w gd dl dc (1 + ch) (.iface 44 (.pointer (some (if fl then ⟨w.heap.size, 0, none⟩ else ea))))) := by
  subst hwl hdl
  have heb := lt_of_heap hea
  have h0 : 0 < w.heap.size := World.block_lt_of_cell? w _ hg
  have t1 : Touch (fun _ => False) w (made4 w gd ds.length dc (1 + ch) (.iface 44 (.pointer (some (if fl then ⟨w.heap.size, 0, none⟩ else ea))))) := ((((Touch.refl _ w).alloc _).alloc _).alloc _).alloc _
  have t2 : Touch (fun _ => False) (w.alloc (.cells #[.string failS] 46)) (made4 w gd ds.length dc (1 + ch) (.iface 44 (.pointer (some (if fl then ⟨w.heap.size, 0, none⟩ else ea))))) := (((Touch.refl _ _).alloc _).alloc _).alloc _
  have hfe := t2.heap (heap_alloc_new w (.cells #[.string failS] 46)) (fun e => e)
  have hrd := rd_new (w.alloc (.cells #[.string failS] 46)) gd dc (1 + ch) ds (.iface 44 (.pointer (some (if fl then ⟨w.heap.size, 0, none⟩ else ea)))) (fun j hj => cell_alloc (hd j hj) _) hdc hdc2 (by omega)
  have hin := in_new _ _ _ _ _ _ _ hrd (by simp; omega)
  simp only [World.size_alloc] at hin
  exact tail24 w0 F fl ⟨w.heap.size, 0, none⟩ ea (if fl then ⟨w.heap.size, 0, none⟩ else ea) aw ws.length wc gd ds.length dc (1 + ch) (w.heap.size + 3) (w.heap.size + 1) (w.heap.size + 2) failS s2 ws ds _ rfl rfl (by exact hF) hin (by
      obtain ⟨p1, p2, p3⟩ := hw
      refine ⟨p1, p2, fun q => ?_⟩
      obtain ⟨gw, r1, r2, r3⟩ := p3 q
      exact ⟨gw, r1, by omega, fun j hj => t1.cell (r3 j hj) (fun e => e)⟩) (t1.cell hg (fun e => e)) (by omega) rfl hfe ((cell_of_row _ _ 0 _ _ _ hfe).trans rfl) (by simp) (t1.heap hea (fun e => e)) (t1.cell hec (fun e => e)) (by omega) (by simp; omega) (by have := hT.size; omega) (hT.trans t1)

set_option maxRecDepth 100000 in
set_option maxHeartbeats 4000000 in
theorem tail18 {u0 u1 u2 u3 u6 u7 u8 u9 u10 u11 u12 u14 u16 u17 u18 u19 u20 u21 u22 u23 u24 u25 u26 u27 u28 u29 u30 u31 u32 u33 u34 u35 u36 u37 u38 u39 u40 u41 u42 u43 u44 u45 u46 u47 u48 u49 u50 u51 u52 u53 u54 u55 u56 u57 u58 u59 u60 u61 u62 u63 u64 u65 u66 u67 u68 u69 u70 u71 u72 u73 u74 u75 u76 u77 u78 u79 u80 u81 u82 u83 u84 u85 u86 u87 u88 u89 u90 u91 u92 u93 u94 u95 u96 u97 u98 u99 u100 u101 u102 u103 u104 u105 u106 u107 u108 u109 u110 u111 u112 u113 u114 u115 u116 u117 u118 u119 u120 u121 u122 u123 u124 u125 u126 u127 u128 u129 u130 u131 u132 u133 u134 u135 u136 u137 u138 u139 u140 u141 u142 u143 u144 u145 u146 u147 u148 u149 u150 u151 u152 u153 u154 u155 u156 u157 u158 u159 u160 u161 u162 u163 u164 u165 u166 u167 u168 u169 u170 u171 u172 u173 u174 u175 u176 u177 u178 u179 u180 u181 u182 : Value} (w0 : World) (F : Interp) (chunk : Nat) (fl : Bool) (ea : Addr) (aw : Option Addr) (wl wc gd dl dc : Nat) (s2 : ByteArray) (ws ds : List UInt8) {ce : Array Value} {te : TypeId} (w : World) (hwl : wl = ws.length) (hdl : dl = ds.length) (hF : F.answers w.tape) (hch : chunk < 256)
    (hw : WordAt w aw wc ws w.heap.size) (hg : w.cell? ⟨0, 0, none⟩ = some (.iface 44 (.pointer (some ea)))) (hea : w.heap[ea.block]? = some (.cells ce te (0, 0))) (hec : w.cell? ea = some (.string s2))
    (hd : ∀ j, (h : j < ds.length) → w.cell? ⟨gd, j, none⟩ = some (byteV ds[j])) (hgd : gd < w.heap.size) (hdc : dl ≤ dc) (hdc2 : dc ≤ 4096) (hT : Touch (fun _ => False) w0 w) :
    Code.wp Ybaf.prog (tailFrom 18 (Ybaf.f3.body.getD .skip)) (bodyPost Ybaf.prog Ybaf.f3 (fun e w' => e = .returned (.bool true) ∧ Touch (fun _ => False) w0 w')) ⟨List.toArray (u0 :: u1 :: u2 :: u3 :: .int .u8 (chunk : Int) :: .bool fl :: u6 :: u7 :: u8 :: u9 :: u10 :: u11 :: u12 :: .slice aw wl wc :: u14 :: .slice (some ⟨gd, 0, none⟩) dl dc :: u16 :: u17 :: u18 :: u19 :: u20 :: u21 :: u22 :: u23 :: u24 :: u25 :: u26 :: u27 :: u28 :: u29 :: u30 :: u31 :: u32 :: u33 :: u34 :: u35 :: u36 :: u37 :: u38 :: u39 :: u40 :: u41 :: u42 :: u43 :: u44 :: u45 :: u46 :: u47 :: u48 :: u49 :: u50 :: u51 :: u52 :: u53 :: u54 :: u55 :: u56 :: u57 :: u58 :: u59 :: u60 :: u61 :: u62 :: u63 :: u64 :: u65 :: u66 :: u67 :: u68 :: u69 :: u70 :: u71 :: u72 :: u73 :: u74 :: u75 :: u76 :: u77 :: u78 :: u79 :: u80 :: u81 :: u82 :: u83 :: u84 :: u85 :: u86 :: u87 :: u88 :: u89 :: u90 :: u91 :: u92 :: u93 :: u94 :: u95 :: u96 :: u97 :: u98 :: u99 :: u100 :: u101 :: u102 :: u103 :: u104 :: u105 :: u106 :: u107 :: u108 :: u109 :: u110 :: u111 :: u112 :: u113 :: u114 :: u115 :: u116 :: u117 :: u118 :: u119 :: u120 :: u121 :: u122 :: u123 :: u124 :: u125 :: u126 :: u127 :: u128 :: u129 :: u130 :: u131 :: u132 :: u133 :: u134 :: u135 :: u136 :: u137 :: u138 :: u139 :: u140 :: u141 :: u142 :: u143 :: u144 :: u145 :: u146 :: u147 :: u148 :: u149 :: u150 :: u151 :: u152 :: u153 :: u154 :: u155 :: u156 :: u157 :: u158 :: u159 :: u160 :: u161 :: u162 :: u163 :: u164 :: u165 :: u166 :: u167 :: u168 :: u169 :: u170 :: u171 :: u172 :: u173 :: u174 :: u175 :: u176 :: u177 :: u178 :: u179 :: u180 :: u181 :: u182 :: []), []⟩ w := by
  have e1 : (chunk : Int).tmod 8 = ((chunk % 8 : Nat) : Int) := by rw [Int.tmod_eq_emod_of_nonneg (by omega)]; omega
  obtain ⟨ch, hc⟩ : ∃ ch, ch = chunk % 8 := ⟨_, rfl⟩
  rw [← hc] at e1
  have hc8 : ch < 8 := by omega
  clear hc
  conv => arg 2; whnf
  go_wp2_with fail
  refine (new_any failS w).mono ?_
  rintro e w2 ⟨rfl, rfl⟩
  have hg2 := cell_alloc hg (.cells #[.string failS] 46)
  cases fl
  · have A : Hid (F.answers w.tape ∧ WordAt w aw wc ws w.heap.size ∧ w.cell? ⟨0, 0, none⟩ = some (.iface 44 (.pointer (some ea))) ∧ w.heap[ea.block]? = some (.cells ce te (0, 0)) ∧ w.cell? ea = some (.string s2) ∧ (∀ j, (h : j < ds.length) → w.cell? ⟨gd, j, none⟩ = some (byteV ds[j])) ∧ Touch (fun _ => False) w0 w ∧ wl = ws.length ∧ dl = ds.length) := ⟨hF, hw, hg, hea, hec, hd, hT, hwl, hdl⟩
    clear hF hw hg hea hec hd hT hwl hdl
    go_wp2_with fail
    refine (newInput_any (w.heap.size + 1) _).mono ?_
    rintro e w3 ⟨rfl, rfl⟩
    rename_i Q' K1 hK1 K0 hK0
    have HK : Hid (∀ a w, Code.wp Ybaf.prog (tailFrom 24 (Ybaf.f3.body.getD .skip)) Q' a w → K1 a w) := hK1
    clear hK1 hg2
    go_wp2_with fail
    refine HK.out _ _ ?_
    obtain ⟨hF, hw, hg, hea, hec, hd, hT, hwl, hdl⟩ := A.out
    subst hwl hdl
    exact tail18_end w0 F false ea aw ws.length wc gd ds.length dc ch s2 ws ds w rfl rfl hF hw hg hea hec hd hgd hdc hdc2 hc8 hT
  · have A : Hid (F.answers w.tape ∧ WordAt w aw wc ws w.heap.size ∧ w.cell? ⟨0, 0, none⟩ = some (.iface 44 (.pointer (some ea))) ∧ w.heap[ea.block]? = some (.cells ce te (0, 0)) ∧ w.cell? ea = some (.string s2) ∧ (∀ j, (h : j < ds.length) → w.cell? ⟨gd, j, none⟩ = some (byteV ds[j])) ∧ Touch (fun _ => False) w0 w ∧ wl = ws.length ∧ dl = ds.length) := ⟨hF, hw, hg, hea, hec, hd, hT, hwl, hdl⟩
    clear hF hw hg hea hec hd hT hwl hdl
    go_wp2_with fail
    refine (newInput_any (w.heap.size + 1) _).mono ?_
    rintro e w3 ⟨rfl, rfl⟩
    rename_i Q' K1 hK1 K0 hK0
    have HK : Hid (∀ a w, Code.wp Ybaf.prog (tailFrom 24 (Ybaf.f3.body.getD .skip)) Q' a w → K1 a w) := hK1
    clear hK1 hg2
    go_wp2_with fail
    refine HK.out _ _ ?_
    obtain ⟨hF, hw, hg, hea, hec, hd, hT, hwl, hdl⟩ := A.out
    subst hwl hdl
    exact tail18_end w0 F true ea aw ws.length wc gd ds.length dc ch s2 ws ds w rfl rfl hF hw hg hea hec hd hgd hdc hdc2 hc8 hT
end Go.Proofs.YbulkbnmoFmt

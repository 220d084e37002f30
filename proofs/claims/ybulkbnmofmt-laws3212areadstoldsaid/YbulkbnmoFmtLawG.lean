/-
  LawS3212AReads (3) from 'c := int(cut) % (len(word) + 2)' on. (The frames written out by program.)
-/
import Derived.Test.YbulkbnmoFmtLawF
namespace Go.Proofs.YbulkbnmoFmt
open Go.RowKit Go.Extern.Stop Go.Stop Go.Extern
set_option linter.unusedVariables false

theorem wpList_append_run {P : Program} (w : World) {ops : Array Oper} {rest : List Oper} {o : Oper} {a : Act} {Q : Exit → Act → World → Prop}
    (hg : o.guard = none) (s x : Operand) (t : TypeId) (hop : o.op = Op.call { callee := Callee.builtin Builtin.append, args := #[s, x], argTypes := #[t, t] })
    (v u r : Value) (w' : World) (hrun : (Builtin.append_ #[t, t] o.type #[v, u]).run P w = .ok r w') (hs : a.eval s = v) (hx : a.eval x = u) (hK : wpList P ops Q rest (a.put o.dst r) w') :
    wpList P ops Q (o :: rest) a w := by
  refine wpList_plain hg fun K hK' => ?_
  unfold Oper.wp
  simp [execOp, hop, resolve, invoke, builtin, hs, hx, hrun, Result.andThen]
  exact hK' _ _ hK

theorem BytesAt.touch {w w' : World} {ta : Option Addr} {ts : List UInt8} (h : BytesAt w ta ts) (ht : Touch (fun _ => False) w w') : BytesAt w' ta ts := by
  intro h0
  obtain ⟨a, e, hc⟩ := h h0
  exact ⟨a, e, fun j hj => ht.cell (hc j hj) (fun e => e)⟩

theorem word_bytes {w : World} {aw : Option Addr} {wc : Nat} {ws : List UInt8} {B c : Nat} (h : WordAt w aw wc ws B) : BytesAt w aw (ws.take c) := by
  intro h0
  have hl : (ws.take c).length ≤ ws.length := by simp; omega
  obtain ⟨gw, e, _, hc⟩ := h.2.2 (by omega)
  refine ⟨_, e, fun j hj => ?_⟩
  have := hc j (by omega)
  rw [List.getElem_take]
  by_cases hj0 : j = 0
  · subst hj0; simpa [Addr.add] using this
  · simpa [Addr.add, hj0] using this

set_option maxRecDepth 100000 in
set_option maxHeartbeats 4000000 in
theorem tail15 {u0 u1 u2 u6 u7 u8 u9 u10 u11 u12 u15 u16 u17 u18 u19 u20 u21 u22 u23 u24 u25 u26 u27 u28 u29 u30 u31 u32 u33 u34 u35 u36 u37 u38 u39 u40 u41 u42 u43 u44 u45 u46 u47 u48 u49 u50 u51 u52 u53 u54 u55 u56 u57 u58 u59 u60 u61 u62 u63 u64 u65 u66 u67 u68 u69 u70 u71 u72 u73 u74 u75 u76 u77 u78 u79 u80 u81 u82 u83 u84 u85 u86 u87 u88 u89 u90 u91 u92 u93 u94 u95 u96 u97 u98 u99 u100 u101 u102 u103 u104 u105 u106 u107 u108 u109 u110 u111 u112 u113 u114 u115 u116 u117 u118 u119 u120 u121 u122 u123 u124 u125 u126 u127 u128 u129 u130 u131 u132 u133 u134 u135 u136 u137 u138 u139 u140 u141 u142 u143 u144 u145 u146 u147 u148 u149 u150 u151 u152 u153 u154 u155 u156 u157 u158 u159 u160 u161 u162 u163 u164 u165 u166 u167 u168 u169 u170 u171 u172 u173 u174 u175 u176 u177 u178 u179 u180 u181 u182 : Value} (w0 : World) (F : Interp) (chunk : Nat) (fl : Bool) (ea : Addr) (aw ta : Option Addr) (wl wc tl tc c : Nat) (s2 : ByteArray) (ws ts : List UInt8) {ce : Array Value} {te : TypeId} (w : World) (hwl : wl = ws.length) (htl : tl = ts.length) (hF : F.answers w.tape) (hch : chunk < 256) (hc : c ≤ wl)
    (hw : WordAt w aw wc ws w.heap.size) (hws : ws.length ≤ 1024) (hsh : (aw = none ∧ ws.length = 0 ∧ wc = 0) ∨ (∃ gw, aw = some ⟨gw, 0, none⟩ ∧ 0 < wc)) (ht : BytesAt w ta ts) (hts : ts.length ≤ 1024) (hg : w.cell? ⟨0, 0, none⟩ = some (.iface 44 (.pointer (some ea)))) (hea : w.heap[ea.block]? = some (.cells ce te (0, 0))) (hec : w.cell? ea = some (.string s2)) (hT : Touch (fun _ => False) w0 w) :
    Code.wp Ybaf.prog (tailFrom 15 (Ybaf.f3.body.getD .skip)) (bodyPost Ybaf.prog Ybaf.f3 (fun e w' => e = .returned (.bool true) ∧ Touch (fun _ => False) w0 w')) ⟨List.toArray (u0 :: u1 :: u2 :: .slice ta tl tc :: .int .u8 (chunk : Int) :: .bool fl :: u6 :: u7 :: u8 :: u9 :: u10 :: u11 :: u12 :: .slice aw wl wc :: .int .i64 (c : Int) :: u15 :: u16 :: u17 :: u18 :: u19 :: u20 :: u21 :: u22 :: u23 :: u24 :: u25 :: u26 :: u27 :: u28 :: u29 :: u30 :: u31 :: u32 :: u33 :: u34 :: u35 :: u36 :: u37 :: u38 :: u39 :: u40 :: u41 :: u42 :: u43 :: u44 :: u45 :: u46 :: u47 :: u48 :: u49 :: u50 :: u51 :: u52 :: u53 :: u54 :: u55 :: u56 :: u57 :: u58 :: u59 :: u60 :: u61 :: u62 :: u63 :: u64 :: u65 :: u66 :: u67 :: u68 :: u69 :: u70 :: u71 :: u72 :: u73 :: u74 :: u75 :: u76 :: u77 :: u78 :: u79 :: u80 :: u81 :: u82 :: u83 :: u84 :: u85 :: u86 :: u87 :: u88 :: u89 :: u90 :: u91 :: u92 :: u93 :: u94 :: u95 :: u96 :: u97 :: u98 :: u99 :: u100 :: u101 :: u102 :: u103 :: u104 :: u105 :: u106 :: u107 :: u108 :: u109 :: u110 :: u111 :: u112 :: u113 :: u114 :: u115 :: u116 :: u117 :: u118 :: u119 :: u120 :: u121 :: u122 :: u123 :: u124 :: u125 :: u126 :: u127 :: u128 :: u129 :: u130 :: u131 :: u132 :: u133 :: u134 :: u135 :: u136 :: u137 :: u138 :: u139 :: u140 :: u141 :: u142 :: u143 :: u144 :: u145 :: u146 :: u147 :: u148 :: u149 :: u150 :: u151 :: u152 :: u153 :: u154 :: u155 :: u156 :: u157 :: u158 :: u159 :: u160 :: u161 :: u162 :: u163 :: u164 :: u165 :: u166 :: u167 :: u168 :: u169 :: u170 :: u171 :: u172 :: u173 :: u174 :: u175 :: u176 :: u177 :: u178 :: u179 :: u180 :: u181 :: u182 :: []), []⟩ w := by
  subst hwl htl
  have hwc := hw.1
  have hwc2 := hw.2.1
  have t1 := madeD_touch w (c + ts.length) (ws.take c) ts
  have hlt : (ws.take c).length = c := by simp; omega
  have km : (Instr.makeSlice 22 (.int .i64 0) (.int .i64 ((c : Int) + (ts.length : Int)))).run Ybaf.prog w = .ok (.slice (some ⟨w.heap.size, 0, none⟩) 0 (c + ts.length)) (w.alloc (.cells (zrowN (c + ts.length)).toArray 5)) := makeN w (c + ts.length) (by omega)
  have ta1 : Touch (fun _ => False) w (w.alloc (.cells (zrowN (c + ts.length)).toArray 5)) := (Touch.refl _ w).alloc _
  have ta2 : Touch (fun _ => False) w ((w.alloc (.cells (zrowN (c + ts.length)).toArray 5)).setCells w.heap.size 0 (bytesV (ws.take c))) := ta1.next (setCells_touch w.heap.size _ _ _) (fun k hk e => by omega)
  have k1 := append_room (w.alloc (.cells (zrowN (c + ts.length)).toArray 5)) w.heap.size 0 (c + ts.length) aw wc (ws.take c) ((word_bytes hw).touch ta1) (by omega) (room_new w _)
  rw [hlt] at k1
  rw [Nat.zero_add] at k1
  have k2 := append_room ((w.alloc (.cells (zrowN (c + ts.length)).toArray 5)).setCells w.heap.size 0 (bytesV (ws.take c))) w.heap.size c (c + ts.length) ta tc ts (ht.touch ta2) (by omega) (room_next w _ _)
  have HEND : Hid (∀ {u0 u1 u2 u3 u6 u7 u8 u9 u10 u11 u12 u14 u16 u17 u18 u19 u20 u21 u22 u23 u24 u25 u26 u27 u28 u29 u30 u31 u32 u33 u34 u35 u36 u37 u38 u39 u40 u41 u42 u43 u44 u45 u46 u47 u48 u49 u50 u51 u52 u53 u54 u55 u56 u57 u58 u59 u60 u61 u62 u63 u64 u65 u66 u67 u68 u69 u70 u71 u72 u73 u74 u75 u76 u77 u78 u79 u80 u81 u82 u83 u84 u85 u86 u87 u88 u89 u90 u91 u92 u93 u94 u95 u96 u97 u98 u99 u100 u101 u102 u103 u104 u105 u106 u107 u108 u109 u110 u111 u112 u113 u114 u115 u116 u117 u118 u119 u120 u121 u122 u123 u124 u125 u126 u127 u128 u129 u130 u131 u132 u133 u134 u135 u136 u137 u138 u139 u140 u141 u142 u143 u144 u145 u146 u147 u148 u149 u150 u151 u152 u153 u154 u155 u156 u157 u158 u159 u160 u161 u162 u163 u164 u165 u166 u167 u168 u169 u170 u171 u172 u173 u174 u175 u176 u177 u178 u179 u180 u181 u182 : Value}, Code.wp Ybaf.prog (tailFrom 18 (Ybaf.f3.body.getD .skip)) (bodyPost Ybaf.prog Ybaf.f3 (fun e w' => e = .returned (.bool true) ∧ Touch (fun _ => False) w0 w')) ⟨List.toArray (u0 :: u1 :: u2 :: u3 :: .int .u8 (chunk : Int) :: .bool fl :: u6 :: u7 :: u8 :: u9 :: u10 :: u11 :: u12 :: .slice aw ws.length wc :: u14 :: .slice (some ⟨w.heap.size, 0, none⟩) (c + ts.length) (c + ts.length) :: u16 :: u17 :: u18 :: u19 :: u20 :: u21 :: u22 :: u23 :: u24 :: u25 :: u26 :: u27 :: u28 :: u29 :: u30 :: u31 :: u32 :: u33 :: u34 :: u35 :: u36 :: u37 :: u38 :: u39 :: u40 :: u41 :: u42 :: u43 :: u44 :: u45 :: u46 :: u47 :: u48 :: u49 :: u50 :: u51 :: u52 :: u53 :: u54 :: u55 :: u56 :: u57 :: u58 :: u59 :: u60 :: u61 :: u62 :: u63 :: u64 :: u65 :: u66 :: u67 :: u68 :: u69 :: u70 :: u71 :: u72 :: u73 :: u74 :: u75 :: u76 :: u77 :: u78 :: u79 :: u80 :: u81 :: u82 :: u83 :: u84 :: u85 :: u86 :: u87 :: u88 :: u89 :: u90 :: u91 :: u92 :: u93 :: u94 :: u95 :: u96 :: u97 :: u98 :: u99 :: u100 :: u101 :: u102 :: u103 :: u104 :: u105 :: u106 :: u107 :: u108 :: u109 :: u110 :: u111 :: u112 :: u113 :: u114 :: u115 :: u116 :: u117 :: u118 :: u119 :: u120 :: u121 :: u122 :: u123 :: u124 :: u125 :: u126 :: u127 :: u128 :: u129 :: u130 :: u131 :: u132 :: u133 :: u134 :: u135 :: u136 :: u137 :: u138 :: u139 :: u140 :: u141 :: u142 :: u143 :: u144 :: u145 :: u146 :: u147 :: u148 :: u149 :: u150 :: u151 :: u152 :: u153 :: u154 :: u155 :: u156 :: u157 :: u158 :: u159 :: u160 :: u161 :: u162 :: u163 :: u164 :: u165 :: u166 :: u167 :: u168 :: u169 :: u170 :: u171 :: u172 :: u173 :: u174 :: u175 :: u176 :: u177 :: u178 :: u179 :: u180 :: u181 :: u182 :: []), []⟩ (madeD w (c + ts.length) (ws.take c) ts)) := by
    unfold Hid
    intros
    have hl : (ws.take c ++ ts).length = c + ts.length := by rw [List.length_append, hlt]
    have hsz := madeD_size w (c + ts.length) (ws.take c) ts
    exact tail18 w0 F chunk fl ea aw ws.length wc w.heap.size (c + ts.length) (c + ts.length) s2 ws (ws.take c ++ ts) _ rfl hl.symm (by exact t1.tape ▸ hF) hch (by
      obtain ⟨p1, p2, p3⟩ := hw
      refine ⟨p1, p2, fun q => ?_⟩
      obtain ⟨gw, r1, r2, r3⟩ := p3 q
      exact ⟨gw, r1, by omega, fun j hj => t1.cell (r3 j hj) (fun e => e)⟩) (t1.cell hg (fun e => e)) (t1.heap hea (fun e => e)) (t1.cell hec (fun e => e)) (fun j hj => madeD_bytes w _ _ _ (by omega) j hj) hsz (by omega) (by omega) (hT.trans t1)
  rw [show (madeD w (c + ts.length) (ws.take c) ts) = ((w.alloc (.cells (zrowN (c + ts.length)).toArray 5)).setCells w.heap.size 0 (bytesV (ws.take c))).setCells w.heap.size c (bytesV ts) by unfold madeD; rw [hlt]] at HEND
  generalize bytesV (List.take c ws) = news1 at *
  have b1 : (0 : Int) ≤ (c : Int) := by omega
  clear hF hw ht hg hea hec hT t1 ta1 ta2
  conv => arg 2; whnf
  rcases hsh with ⟨rfl, h1, rfl⟩ | ⟨gw, rfl, h1⟩
  · have b2 : (c : Int) ≤ 0 := by omega
    clear h1
    refine seq_stop (b' := tailFrom 16 (Ybaf.f3.body.getD .skip)) rfl ?_
    intro K1 hK1
    go_wp2
    refine hK1.out _ _ ?_
    clear hK1 km
    conv => arg 2; whnf
    refine seq_stop (b' := tailFrom 17 (Ybaf.f3.body.getD .skip)) rfl ?_
    intro K2 hK2
    go_wp2_with (at_builtin; refine wpList_append_run _ rfl _ _ 22 rfl _ _ _ _ (k1 _) rfl rfl ?_)
    refine hK2.out _ _ ?_
    clear hK2 k1
    conv => arg 2; whnf
    refine seq_stop (b' := tailFrom 18 (Ybaf.f3.body.getD .skip)) rfl ?_
    intro K3 hK3
    go_wp2_with (at_builtin; refine wpList_append_run _ rfl _ _ 22 rfl _ _ _ _ (k2 _) rfl rfl ?_)
    refine hK3.out _ _ ?_
    exact HEND.out
  · have b2 : (c : Int) ≤ (wc : Int) := by omega
    have b3 : ¬ wc = 0 := by omega
    refine seq_stop (b' := tailFrom 16 (Ybaf.f3.body.getD .skip)) rfl ?_
    intro K1 hK1
    go_wp2
    refine hK1.out _ _ ?_
    clear hK1 km
    conv => arg 2; whnf
    refine seq_stop (b' := tailFrom 17 (Ybaf.f3.body.getD .skip)) rfl ?_
    intro K2 hK2
    go_wp2_with (at_builtin; refine wpList_append_run _ rfl _ _ 22 rfl _ _ _ _ (k1 _) rfl rfl ?_)
    refine hK2.out _ _ ?_
    clear hK2 k1
    conv => arg 2; whnf
    refine seq_stop (b' := tailFrom 18 (Ybaf.f3.body.getD .skip)) rfl ?_
    intro K3 hK3
    go_wp2_with (at_builtin; refine wpList_append_run _ rfl _ _ 22 rfl _ _ _ _ (k2 _) rfl rfl ?_)
    refine hK3.out _ _ ?_
    exact HEND.out
end Go.Proofs.YbulkbnmoFmt

/-
  LawS3212AReads (3): from its first loop to its end. (The frames written out by program.)
-/
import Derived.Test.YbulkbnmoFmtLawC
namespace Go.Proofs.YbulkbnmoFmt
open Go.RowKit Go.Extern.Stop Go.Stop Go.Extern
set_option linter.unusedVariables false

/-- A walk that stops ahead of b. -/
theorem seq_stop {P : Program} {a b b' : Code} {Q : Exit → Act → World → Prop} {s : Act} {w : World} (hb : b = b') (h : ∀ K : Act → World → Prop, Hid (∀ a w, b'.wp P Q a w → K a w) → a.wp P (Exit.then K Q) s w) : (a.seq b).wp P Q s w := by
  subst hb
  exact wp_seq (h _ (fun _ _ h => h))

set_option maxRecDepth 100000 in
set_option maxHeartbeats 4000000 in
theorem tail24 {u0 u1 u2 u3 u4 u6 u7 u8 u9 u10 u11 u12 u14 u17 u18 u20 u21 u22 u23 u24 u25 u26 u27 u28 u29 u30 u31 u32 u33 u34 u35 u36 u37 u38 u39 u40 u41 u42 u43 u44 u45 u46 u47 u48 u49 u50 u51 u52 u53 u54 u55 u56 u57 u58 u59 u60 u61 u62 u63 u64 u65 u66 u67 u68 u69 u70 u71 u72 u73 u74 u75 u76 u77 u78 u79 u80 u81 u82 u83 u84 u85 u86 u87 u88 u89 u90 u91 u92 u93 u94 u95 u96 u97 u98 u99 u100 u101 u102 u103 u104 u105 u106 u107 u108 u109 u110 u111 u112 u113 u114 u115 u116 u117 u118 u119 u120 u121 u122 u123 u124 u125 u126 u127 u128 u129 u130 u131 u132 u133 u134 u135 u136 u137 u138 u139 u140 u141 u142 u143 u144 u145 u146 u147 u148 u149 u150 u151 u152 u153 u154 u155 u156 u157 u158 u159 u160 u161 u162 u163 u164 u165 u166 u167 u168 u169 u170 u171 u172 u173 u174 u175 u176 u177 u178 u179 u180 u181 u182 : Value} (w0 : World) (F : Interp) (fl : Bool) (fe ea fa : Addr) (aw : Option Addr) (wl wc gd dl dc ch bi br g : Nat) (s1 s2 : ByteArray) (ws ds : List UInt8) {ce : Array Value} {te : TypeId} (w : World) (hwl : wl = ws.length) (hdl : dl = ds.length) (hF : F.answers w.tape)
    (hI : InAt w bi br gd dc ch ds (.iface 44 (.pointer (some fa))) 0 g 16384 .nilIface) (hw : WordAt w aw wc ws br) (hg : w.cell? ⟨0, 0, none⟩ = some (.iface 44 (.pointer (some ea)))) (h0 : 0 < br)
    (hfa : fa = if fl then fe else ea) (hfe : w.heap[fe.block]? = some (.cells #[.string s1] 46 (0, 0))) (hfc : w.cell? fe = some (.string s1)) (hfb : fe.block < br) (hea : w.heap[ea.block]? = some (.cells ce te (0, 0))) (hec : w.cell? ea = some (.string s2)) (heb : ea.block < br) (hne : fe.block ≠ ea.block)
    (hB : w0.heap.size ≤ br) (hT : Touch (fun _ => False) w0 w) :
    Code.wp Ybaf.prog (tailFrom 24 (Ybaf.f3.body.getD .skip)) (bodyPost Ybaf.prog Ybaf.f3 (fun e w' => e = .returned (.bool true) ∧ Touch (fun _ => False) w0 w')) ⟨List.toArray (u0 :: u1 :: u2 :: u3 :: u4 :: .bool fl :: u6 :: u7 :: u8 :: u9 :: u10 :: u11 :: u12 :: .slice aw wl wc :: u14 :: .slice (some ⟨gd, 0, none⟩) dl dc :: .iface 44 (.pointer (some fe)) :: u17 :: u18 :: .pointer (some ⟨bi, 0, none⟩) :: u20 :: u21 :: u22 :: u23 :: u24 :: u25 :: u26 :: u27 :: u28 :: u29 :: u30 :: u31 :: u32 :: u33 :: u34 :: u35 :: u36 :: u37 :: u38 :: u39 :: u40 :: u41 :: u42 :: u43 :: u44 :: u45 :: u46 :: u47 :: u48 :: u49 :: u50 :: u51 :: u52 :: u53 :: u54 :: u55 :: u56 :: u57 :: u58 :: u59 :: u60 :: u61 :: u62 :: u63 :: u64 :: u65 :: u66 :: u67 :: u68 :: u69 :: u70 :: u71 :: u72 :: u73 :: u74 :: u75 :: u76 :: u77 :: u78 :: u79 :: u80 :: u81 :: u82 :: u83 :: u84 :: u85 :: u86 :: u87 :: u88 :: u89 :: u90 :: u91 :: u92 :: u93 :: u94 :: u95 :: u96 :: u97 :: u98 :: u99 :: u100 :: u101 :: u102 :: u103 :: u104 :: u105 :: u106 :: u107 :: u108 :: u109 :: u110 :: u111 :: u112 :: u113 :: u114 :: u115 :: u116 :: u117 :: u118 :: u119 :: u120 :: u121 :: u122 :: u123 :: u124 :: u125 :: u126 :: u127 :: u128 :: u129 :: u130 :: u131 :: u132 :: u133 :: u134 :: u135 :: u136 :: u137 :: u138 :: u139 :: u140 :: u141 :: u142 :: u143 :: u144 :: u145 :: u146 :: u147 :: u148 :: u149 :: u150 :: u151 :: u152 :: u153 :: u154 :: u155 :: u156 :: u157 :: u158 :: u159 :: u160 :: u161 :: u162 :: u163 :: u164 :: u165 :: u166 :: u167 :: u168 :: u169 :: u170 :: u171 :: u172 :: u173 :: u174 :: u175 :: u176 :: u177 :: u178 :: u179 :: u180 :: u181 :: u182 :: []), []⟩ w := by
  subst hwl hdl
  have hdc := hI.rd.room
  have hsm := hI.rd.small
  have hwc := hw.1
  have hwc2 := hw.2.1
  have hFA : ∃ (s : ByteArray) (cf : Array Value) (tf : TypeId), w.heap[fa.block]? = some (.cells cf tf (0, 0)) ∧ w.cell? fa = some (.string s) ∧ fa.block < br := by
    subst hfa
    cases fl
    · exact ⟨s2, _, _, hea, hec, heb⟩
    · exact ⟨s1, _, _, hfe, hfc, hfb⟩
  obtain ⟨s, cf, tf, hfa1, hfa2, hfa3⟩ := hFA
  have A : Hid (F.answers w.tape ∧ InAt w bi br gd dc ch ds (.iface 44 (.pointer (some fa))) 0 g 16384 .nilIface ∧ WordAt w aw wc ws br ∧ w.cell? ⟨0, 0, none⟩ = some (.iface 44 (.pointer (some ea))) ∧ w.heap[fe.block]? = some (.cells #[.string s1] 46 (0, 0)) ∧ w.heap[ea.block]? = some (.cells ce te (0, 0)) ∧ Touch (fun _ => False) w0 w ∧ w.heap[fa.block]? = some (.cells cf tf (0, 0)) ∧ w.cell? fa = some (.string s) ∧ fa = if fl then fe else ea) := ⟨hF, hI, hw, hg, hfe, hea, hT, hfa1, hfa2, hfa⟩
  clear hF hI hw hg hfe hea hT hfc hec hfa1 hfa2 hfa
  conv => arg 2; whnf
  go_wp2
  refine law_loop1 aw ws.length wc gd ds.length dc br ws ds w rfl rfl hdc hsm.1 A.out.2.2.1 A.out.2.1.rd.bytes ?_
  intro m v90 v91 v92 v93 v94 v95 v96 v97 v98 v99 v100 v101 v102 v103 v104 v105 v106 v107 v108 v109 v110 v111 v112 w2 hC hT2
  have D : Hid (Common ws ds m ∧ Touch (fun _ => False) w w2) := ⟨hC, hT2⟩
  clear hC hT2

  rename_i Q' K hK
  refine hK _ _ ?_
  clear hK
  refine seq_stop (b' := tailFrom 28 (Ybaf.f3.body.getD .skip)) rfl ?_
  intro K2 hK2
  go_wp2_with fail
  refine (literal_any F bi br gd dc ch ds ws m fa ea s s2 0 g 16384 aw wc w2 (by exact D.out.2.tape ▸ A.out.1) (A.out.2.1.touch D.out.2 (fun e => e) (fun e => e) (fun e => e) (fun e => e)) (.inl ⟨rfl, rfl⟩) (A.out.2.2.1.touch (D.out.2.mono (fun _ _ e => e.elim))) D.out.1 (D.out.2.cell A.out.2.2.2.1 (fun e => e)) h0 (D.out.2.heap A.out.2.2.2.2.2.2.2.1 (fun e => e)) (D.out.2.cell A.out.2.2.2.2.2.2.2.2.1 (fun e => e)) hfa3 (D.out.2.heap A.out.2.2.2.2.2.1 (fun e => e)) heb).mono ?_
  intro e w3 hP
  have hsz := Nat.le_trans (Nat.succ_le_of_lt (lt_of_heap A.out.2.2.2.2.1)) D.out.2.size
  rcases hP with ⟨hm, rfl, t, g', cap, hL⟩ | ⟨hm, hor, H, rfl, hL, s3, hH⟩ | ⟨hm, hml, hor, H, rfl, hL, s3, hH⟩
  · have E : Hid (LitOk w2 w3 bi br ds m t g' cap ∧ m = ws.length) := ⟨hL, hm⟩
    clear hL hm
    go_wp2_with fail
    refine hK2.out _ _ ?_
    have hT3 : Touch (fun k => br ≤ k) w w3 := (D.out.2.mono (fun _ _ e => e.elim)).trans E.out.1.touch
    exact tail28_yes w0 fl fe aw ws.length wc gd ds.length dc bi br g' t cap m ws ds w2 w3 rfl rfl E.out.2 hdc hsm.1 (fun j hj => hT3.cell (A.out.2.1.rd.bytes j hj) (by have := A.out.2.1.ord; simp; omega)) E.out.1 (A.out.2.2.2.2.2.2.1.next hT3 (fun k hk e => by omega))
  · have E : Hid (LitNot w2 w3 bi br H ∧ m < ws.length ∧ (m < ds.length ∨ fa = ea) ∧ w3.heap[H]? = some (.cells #[.string s3] 46 (0, 0))) := ⟨hL, hm, hor, hH⟩
    clear hL hm hor hH
    go_wp2_with fail
    refine hK2.out _ _ ?_
    have hT3 : Touch (fun k => br ≤ k) w w3 := (D.out.2.mono (fun _ _ e => e.elim)).trans E.out.1.touch
    have hnw := E.out.1.new
    exact tail28_new w0 fl fe aw ws.length wc gd ds.length dc bi br H m s1 s3 w2 w3 E.out.2.1 D.out.1.le2 (by omega) hdc hsm.1 (by
      rcases E.out.2.2.1 with h | h
      · exact .inl h
      · right
        cases fl
        · rfl
        · have := A.out.2.2.2.2.2.2.2.2.2
          simp at this
          rw [this] at h
          rw [h] at hne
          exact absurd rfl hne) E.out.1 E.out.2.2.2 (hT3.heap A.out.2.2.2.2.1 (by omega)) (by omega) (A.out.2.2.2.2.2.2.1.next hT3 (fun k hk e => by omega))
  · obtain rfl : fl = true := by
      cases fl
      · have := A.out.2.2.2.2.2.2.2.2.2
        simp at this
        exact absurd this hor
      · rfl
    obtain rfl : fa = fe := by simpa using A.out.2.2.2.2.2.2.2.2.2
    have E : Hid (LitNot w2 w3 bi br H ∧ m < ws.length ∧ m = ds.length ∧ w3.heap[H]? = some (.cells #[.string s3, .iface 44 (.pointer (some fa))] 98 (0, 0))) := ⟨hL, hm, hml, hH⟩
    clear hL hm hor hH hml
    go_wp2_with fail
    refine hK2.out _ _ ?_
    have hT3 : Touch (fun k => br ≤ k) w w3 := (D.out.2.mono (fun _ _ e => e.elim)).trans E.out.1.touch
    exact tail28_wrap w0 fa aw ws.length wc gd ds.length dc bi br H m s3 w2 w3 E.out.2.1 E.out.2.2.1 (by omega) hdc hsm.1 E.out.1 E.out.2.2.2 (A.out.2.2.2.2.2.2.1.next hT3 (fun k hk e => by omega))
end Go.Proofs.YbulkbnmoFmt

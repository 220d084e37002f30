/-
  'Rows.LawS3212AReadsToldSaid': THE ROW (for every interpretation F of fmt's stop, taken at F.told) AND THE CARD. After the guide's worked PortTold.lean, PortSeven.lean, GuardProofs.lean, turned to this program.
-/
import Derived.Test.YbulkbnmoFmtRows
import Derived.Test.YbulkbnmoFmtTie
import Derived.Test.YbulkbnmoFmtCards
import Derived.Test.YbulkbnmoFmtLaw
import Derived.ProofKit
import Derived.OpenShut
import Derived.ShutString
import Derived.ChangeOld
import Derived.Below
import Derived.Stop.JoinedAt
import Derived.Stop.Texts
import Derived.Stop.JoinedTold
import Derived.Stop.LaidErr
import Derived.LaidLaws
import Derived.SevenTiedAt
namespace Go.Proofs.YbulkbnmoFmt
open Go.ChangeShapes Go.WideShapes Go.ChangeAt Go.RowKit Go.Kit
open Go.Extern.Stop Go.Stop Go.Extern
set_option linter.unusedVariables false

theorem own : ownKnob Ybaf.prog.godebug = none := by kernel_rfl
theorem laidOut : laidOutB Ybaf.prog = true := by kernel_rfl
theorem stops : Ybaf.pinned.checked.prog.stops = ["fmt.errorf"] := by kernel_rfl
theorem stopKnobs : Ybaf.pinned.checked.prog.stopKnobs = [] := by kernel_rfl
theorem quiet (os : Os) : Stop.quiet Ybaf.pinned.checked.prog os := by
  intro k hk
  rw [stopKnobs] at hk
  cases hk
theorem gE : Ybaf.prog.globalNamed "io.EOF" = some 0 := by kernel_rfl
theorem gEType : (Ybaf.prog.globals[0]?).map (·.type) = some 25 := by kernel_rfl
theorem cells46 : Ybaf.prog.cellsOf 46 = 1 := by kernel_rfl
theorem cells9 : Ybaf.prog.cellsOf 9 = 1 := by kernel_rfl
theorem star : String.ofList ['*'] ++ "errors.errorString" = starName := by decide
theorem laid_eq : Rows.lawS3212AReadsRow.laid = [("io.EOF", .iface starName (.ptr (.agg [.lit (.string [69, 79, 70])])))] := by
  have e : starName = _ := star.symm
  rfl
theorem row44 (u : TypeId) (h : Ybaf.prog.typeName? 3 u = some starName) : u = 44 :=
  typeName_ptr_named (nm := "errors.errorString") (by kernel_rfl) (by kernel_rfl) (by decide) u h

/-! ### One start that fits: the sentinel as its initialiser lays it -/
/-- The settled world of P with one block more, an errors.errorString; variable 0 holds a pointer to it. -/
def laidW (P : Program) (os : Os) : World :=
  { World.holding P os ⟨#[.cells #[.string ⟨#[69, 79, 70]⟩] 46], #[], []⟩ with heap := (World.holding P os ⟨#[.cells #[.string ⟨#[69, 79, 70]⟩] 46], #[], []⟩).heap.modify 0 fun
      | .cells _ t frozen => .cells #[.iface 44 (.pointer (some ⟨(World.holding P default ⟨#[], #[], []⟩).heap.size, 0, none⟩))] t frozen
      | o => o }
theorem laid_met (os : Os) (args : Array Value) : laidMet Ybaf.prog Rows.lawS3212AReadsRow.laid ((laidW Ybaf.prog os).forCall (fun _ _ => 0) ⟨#[], args, []⟩).memory :=
  laidMet_of_run (ps := [.cell 0 0, .cell (World.holding Ybaf.prog default ⟨#[], #[], []⟩).heap.size 0]) 8 (by kernel_rfl) (by kernel_rfl) (by kernel_rfl)

/-- A sentinel off the row's list, and its row of cells. -/
theorem laid_one {P : Program} {n nm : String} {text : List UInt8} {r : List (String × DataW Unit)} {W : World} {g : Nat} {ti tp te ts : TypeId} {ms : Array (String × TypeId)} {f : Field}
    (h : laidMet P ((n, .iface nm (.ptr (.agg [.lit (.string text)]))) :: r) W)
    (hg : P.globalNamed n = some g) (ht : (P.globals[g]?).map (·.type) = some ti) (hi : P.underlying ti = some (.interface ms)) (hrow : ∀ u, P.typeName? 3 u = some nm → u = tp)
    (hp : P.underlying tp = some (.pointer te)) (he : P.underlying te = some (.struct #[f])) (hft : f.type = ts) (hfo : f.offset = 0) (hs : P.underlying ts = some .string) (hc : P.cellsOf te = 1) (hcs : P.cellsOf ts = 1) :
    ∃ (a : Addr) (s : ByteArray) (c : Array Value) (t : TypeId), W.var? P n = some #[.iface tp (.pointer (some a))] ∧ W.cell? a = some (.string s) ∧ W.heap[a.block]? = some (.cells c t (0, 0)) := by
  obtain ⟨ps, ⟨g0, t0, cs0, f0, p0, q0, hg0, ht0, hv0, hd0, _, e0⟩, _, hrows⟩ := h
  obtain rfl := Option.some.inj (hg.symm.trans hg0)
  obtain rfl := Option.some.inj (ht.symm.trans ht0)
  subst e0
  obtain ⟨l0⟩ := cs0
  have ok0 : ∀ u v, l0 = [.iface u v] → Value.okWide P W .any 0 u v := fun u v e => by
    subst e
    exact (hrows g 0 (by simp [MemPlace.row])).2 u v (by simpa using World.var?_cell hg0 hv0 0)
  obtain ⟨a0, s0, rfl, hc0, hs0, hz0, rfl⟩ := errorString_of_trod hi hrow hp he hft hfo hs hc hcs hd0 ok0
  obtain ⟨c0, t0, hb0⟩ := (hrows a0.block a0.off (by simp [MemPlace.row])).1
  exact ⟨a0, s0, c0, t0, hv0, hc0, hb0⟩

/-- A []byte that came in, as the walk wants it. -/
theorem bytes_in {W : World} {a : Addr} {len cap : Nat} {zs : List Int} (hl : len ≤ cap) (hz : zs.length = cap) (hc : ∀ i, i < zs.length → W.cell? (a.add i) = some (.int .u8 (zs.getD i 0))) (hw : ∀ n ∈ zs, (Lit.int .u8 n).wf = true) :
    ∃ os : List UInt8, os.length = len ∧ BytesAt W (some a) os := by
  refine ⟨(zs.take len).map (fun z => UInt8.ofNat z.toNat), by simp; omega, fun _ => ⟨a, rfl, fun j hj => ?_⟩⟩
  have hj' : j < len := by simp at hj; omega
  rw [hc j (by omega)]
  have hm := hw (zs[j]'(by omega)) (List.getElem_mem _)
  have e0 : IntKind.u8.min = 0 := rfl
  have e1 : IntKind.u8.max = 255 := rfl
  simp [Lit.wf, e0, e1] at hm
  simp [byteV, List.getD, hz, show j < cap by omega]
  omega

set_option maxRecDepth 100000 in
set_option maxHeartbeats 4000000 in
theorem lifted (os : Os) (started : os.Started) (H : Type) (enc : TypeId × Value → H) :
    ReturnsInTold none {} Ybaf.checked os 3 .any Input.okWide ((OpenSpec.ofChange Rows.lawS3212AReadsSpec).preRow enc Ybaf.prog Ybaf.f3 Rows.lawS3212AReadsRow.domain false Rows.lawS3212AReadsRow.laid) (fun F => ((OpenSpec.ofChange Rows.lawS3212AReadsSpec).at F).post enc Ybaf.prog Ybaf.f3 false true false false) (aloneAtReturn Ybaf.prog) nothingAlways := by
  refine returnsInTold_of_row (C := Ybaf.checked) (s := OpenSpec.ofChange Rows.lawS3212AReadsSpec) (by kernel_rfl) own started (by kernel_rfl) Ybaf.func3
    (OpenSpec.witness_stopped_at (enc := enc) (C := Ybaf.checked) false (laidW Ybaf.prog os) #[.int .u8 0, .slice none 0 0, .int .u16 0, .slice none 0 0, .int .u8 0, .bool false] rfl (by kernel_rfl) (by kernel_rfl) (by kernel_rfl)
      (OpenSpec.preRow_of_B rfl 8 (by kernel_rfl) (by kernel_rfl) (laid_met os _))) ?_
  intro F W base args ds gs before _ hF hval0 hW _ _ _ hL _
  have hval : ∀ (j : Nat) t v, Ybaf.f3.params[j]? = some t → args[j]? = some v → Value.okWide Ybaf.prog W .any base t v := hval0
  have hW' := hW
  obtain ⟨p, q, hA0, hV0, rfl, hfz, hnd⟩ := hW
  have hA : DataW.TrodAll enc Ybaf.prog W 0 (fun _ => true) true Ybaf.f3.params.toList args.toList ds p := hA0
  rw [Ybaf.params3] at hA hval
  obtain ⟨v0, vs0, d0, ds0, p0, q0, hargs, rfl, rfl, h0, r0⟩ := trodAll_cons hA
  obtain ⟨v1, vs1, d1, ds1, p1, q1, rfl, rfl, rfl, h1, r1⟩ := trodAll_cons r0
  obtain ⟨v2, vs2, d2, ds2, p2, q2, rfl, rfl, rfl, h2, r2⟩ := trodAll_cons r1
  obtain ⟨v3, vs3, d3, ds3, p3, q3, rfl, rfl, rfl, h3, r3⟩ := trodAll_cons r2
  obtain ⟨v4, vs4, d4, ds4, p4, q4, rfl, rfl, rfl, h4, r4⟩ := trodAll_cons r3
  obtain ⟨v5, vs5, d5, ds5, p5, q5, rfl, rfl, rfl, h5, r5⟩ := trodAll_cons r4
  obtain ⟨rfl, rfl, rfl⟩ := trodAll_nil r5
  obtain rfl : args = #[v0, v1, v2, v3, v4, v5] := by cases args; simp_all
  obtain ⟨rfl, rfl⟩ := trodVars_none hV0
  obtain ⟨a0, rfl, rfl, rfl, w0⟩ := open_int Ybaf.underlying5 (hval 0 5 v0 rfl rfl) h0
  obtain ⟨a2, rfl, rfl, rfl, w2⟩ := open_int Ybaf.underlying23 (hval 2 23 v2 rfl rfl) h2
  obtain ⟨a4, rfl, rfl, rfl, w4⟩ := open_int Ybaf.underlying5 (hval 4 5 v4 rfl rfl) h4
  obtain ⟨a5, rfl, rfl, rfl⟩ := open_bool Ybaf.underlying4 (hval 5 4 v5 rfl rfl) h5
  obtain ⟨a1, len1, cap1, rfl⟩ := okWide_slice Ybaf.underlying22 (hval 1 22 v1 rfl rfl)
  have k1 := h1
  have lt1 : ∀ x ∈ p1, x.block < W.heap.size := by obtain ⟨m, hm⟩ := k1; exact DataW.trod_lt m _ _ _ hm
  obtain ⟨os1, rfl, b1⟩ : ∃ os : List UInt8, os.length = len1 ∧ BytesAt W a1 os := by
    obtain ⟨fuel, hf⟩ := h1
    rcases open_ints Ybaf.underlying22 Ybaf.underlying5 (by kernel_rfl) hf with ⟨hcs, _⟩ | ⟨x, l, c, zs, hcs, _, hl, hm, hz, _, hcell, hwz⟩
    · simp [Value.cells] at hcs
      obtain ⟨rfl, rfl, rfl⟩ := hcs
      exact ⟨[], rfl, fun h => by simp at h⟩
    · simp [Value.cells] at hcs
      obtain ⟨rfl, rfl, rfl⟩ := hcs
      exact bytes_in hl (by simpa using hz) hcell hwz
  obtain ⟨a3, len3, cap3, rfl⟩ := okWide_slice Ybaf.underlying22 (hval 3 22 v3 rfl rfl)
  have k3 := h3
  have lt3 : ∀ x ∈ p3, x.block < W.heap.size := by obtain ⟨m, hm⟩ := k3; exact DataW.trod_lt m _ _ _ hm
  obtain ⟨os3, rfl, b3⟩ : ∃ os : List UInt8, os.length = len3 ∧ BytesAt W a3 os := by
    obtain ⟨fuel, hf⟩ := h3
    rcases open_ints Ybaf.underlying22 Ybaf.underlying5 (by kernel_rfl) hf with ⟨hcs, _⟩ | ⟨x, l, c, zs, hcs, _, hl, hm, hz, _, hcell, hwz⟩
    · simp [Value.cells] at hcs
      obtain ⟨rfl, rfl, rfl⟩ := hcs
      exact ⟨[], rfl, fun h => by simp at h⟩
    · simp [Value.cells] at hcs
      obtain ⟨rfl, rfl, rfl⟩ := hcs
      exact bytes_in hl (by simpa using hz) hcell hwz
  have hL' : laidMet Ybaf.prog [("io.EOF", .iface starName (.ptr (.agg [.lit (.string [69, 79, 70])])))] W := hL
  obtain ⟨ea, s2, ce, te, hv, hec, hea⟩ := laid_one hL' gE gEType Ybaf.underlying25 row44 Ybaf.underlying44 Ybaf.underlying46 rfl rfl Ybaf.underlying9 cells46 cells9
  have hg : W.cell? ⟨0, 0, none⟩ = some (.iface 44 (.pointer (some ea))) := by simpa using World.var?_cell gE hv 0
  clear hA0 hval0
  have m8 : IntKind.u8.min = 0 ∧ IntKind.u8.max = 255 := ⟨rfl, rfl⟩
  have m16 : IntKind.u16.min = 0 ∧ IntKind.u16.max = 65535 := ⟨rfl, rfl⟩
  have w0' := w0
  have w2' := w2
  have w4' := w4
  simp [Lit.wf, m8] at w0' w4'
  simp [Lit.wf, m16] at w2'
  obtain ⟨n0, rfl⟩ : ∃ n : Nat, a0 = (n : Int) := ⟨a0.toNat, by omega⟩
  obtain ⟨n2, rfl⟩ : ∃ n : Nat, a2 = (n : Int) := ⟨a2.toNat, by omega⟩
  obtain ⟨n4, rfl⟩ : ∃ n : Nat, a4 = (n : Int) := ⟨a4.toNat, by omega⟩
  refine (law_any F.told n0 n2 n4 a5 a1 a3 cap1 cap3 os1 os3 ea s2 W hF (by omega) (by omega) (by omega) b1 b3 hg hea hec).mono fun e W' ⟨he, hT⟩ => ?_
  subst he
  have bel : Below W.heap.size W W' := hT.below (Nat.le_refl _) (fun _ h => h.elim)
  exact ⟨_, rfl, _, _, _, [], _, [], hW', trodAll_mk1 (shut_bool Ybaf.underlying4 _), (trodAll_cons_mk (shut_int Ybaf.underlying5 w0) (trodAll_cons_mk (Below.trod laidOut (by kernel_rfl) (of_decide_eq_true (by kernel_rfl)) k1 bel lt1) (trodAll_cons_mk (shut_int Ybaf.underlying23 w2) (trodAll_cons_mk (Below.trod laidOut (by kernel_rfl) (of_decide_eq_true (by kernel_rfl)) k3 bel lt3) (trodAll_cons_mk (shut_int Ybaf.underlying5 w4) (trodAll_cons_mk (shut_bool Ybaf.underlying4 _) trodAll_mk0)))))), rfl, bel.frame _, fun h => by cases h⟩

/-- ████ THE STATEMENT ████ -/
theorem lawS3212AReads_told : Rows.LawS3212AReadsToldSaid :=
  Claim7.holds_of_told_tied_any_at .later 3 Ybaf.f3 "fmt.errorf" [] [] _ _ _ _ _ (by kernel_rfl) rfl rfl rfl laidOut (by kernel_rfl) rfl ⟨rfl, rfl, rfl, rfl, rfl, rfl, rfl⟩ rfl rfl (by kernel_rfl) (by kernel_rfl) Ybaf.func3 (by kernel_rfl)
    (of_decide_eq_true (by kernel_rfl)) (of_decide_eq_true (by kernel_rfl)) stops.symm rfl stopKnobs.symm (by kernel_rfl)
    (by kernel_rfl) (by kernel_rfl) (by kernel_rfl) (by kernel_rfl) (by kernel_rfl) (by kernel_rfl) (by kernel_rfl) (by kernel_rfl) (by kernel_rfl) rfl (by kernel_rfl) rfl rfl
    rfl rfl
    rfl (by kernel_rfl) (by kernel_rfl) (by kernel_rfl) (by decide) (by kernel_rfl) lawS3212AReads_row_tie
    (OpenClaim.moreEntering_of (by kernel_rfl) (by kernel_rfl) (by kernel_rfl) (by kernel_rfl) (by kernel_rfl) (by kernel_rfl) (by kernel_rfl) (by kernel_rfl) (by kernel_rfl) (by kernel_rfl))
    ⟨_, WideRow.started_initial, quiet _⟩
    (fun os started _ H enc _ => lifted os started H enc)
#print axioms lawS3212AReads_told
end Go.Proofs.YbulkbnmoFmt

/-
  THE SHELL OF A PROOF OF 'Rows.LawS3206BExactSaid' ('goroscope.example/goroscope/pkg/stacks.LawS3206BExact'), WRITTEN BY PROGRAM (proof-skeleton.mjs) off the guide's own print for that function. Not trusted: Lean checks it.
  THE HOLES ARE FILLED. ALL ELSE IS THE GUIDE's TEMPLATE (howto/template/XProofs.lean) at this function's number and types: leave it.
-/
import Derived.Test.YbulkbnjiRows
import Derived.WalkKit
import Derived.Test.YbulkbnjiWork
import Derived.Outline
import Derived.ProofKit
import Derived.OpenShut
import Derived.ShutString
namespace Go.Proofs.Ybulkbnji.lawS3206BExact
open Go.ChangeShapes Go.WideShapes Go.ChangeAt Go.RowKit
open Go.ChangeMaps (open_string shut_string)
set_option linter.unusedVariables false      -- a walk need not use every 'w<i>' (that an integer argument fits its kind)

theorem own : ownKnob Yba.prog.godebug = none := by kernel_rfl

theorem plainA (a n m hi lo : Int) (h0 : 0 ≤ hi) (h1 : 0 ≤ lo) (hm2 : m ≤ 9223372036854775806) (h2 : hi * 18446744073709551616 + lo = a * n) (h3 : a * n ≤ m) : hi = 0 ∧ lo = a * n := by omega
theorem plainB (a n m hi lo : Int) (h0 : 0 ≤ hi) (h2 : hi * 18446744073709551616 + lo = a * n) (h3 : m < a * n) (h4 : hi = 0) : m < lo := by omega
theorem big_ne (m : Int) (h : m ≠ 9223372036854775807) : (m == 9223372036854775807) = false := beq_eq_false_iff_ne.2 h

/-! ### STEP 1: THE WALK: the Go text returns true. 'Grown w w'': the world has at most new blocks (Derived/RowKit3.lean). Part the cases AHEAD of 'go_enter' where a test parts the walk; take each callee by a contract of your own. -/
theorem walk (a0 : Int) (a1 : Int) (a2 : Int) (w0 : (Lit.int .i64 a0).wf = true) (w1 : (Lit.int .i64 a1).wf = true) (w2 : (Lit.int .i64 a2).wf = true) (w : World) :
    Calls Yba.prog 3 #[.int .i64 a0, .int .i64 a1, .int .i64 a2] w fun e w' => e = .returned (.bool true) ∧ Grown w w' := by
  obtain ⟨b0, b0'⟩ := bounds_i64 w0
  obtain ⟨b1, b1'⟩ := bounds_i64 w1
  obtain ⟨b2, b2'⟩ := bounds_i64 w2
  obtain ⟨n0, n0'⟩ := nat63_bd a0 (by omega) (by omega)
  obtain ⟨n1, n1'⟩ := nat63_bd a1 (by omega) (by omega)
  obtain ⟨n2, n2'⟩ := nat63_bd a2 (by omega) (by omega)
  go_enter Yba.func3, Yba.ntmps3
  go_wp2_with fail
  refine (nat_any a0 _ b0 b0').mono ?_
  rintro e w' ⟨rfl, rfl⟩
  go_wp2_with fail
  refine (nat_any a1 _ b1 b1').mono ?_
  rintro e w' ⟨rfl, rfl⟩
  go_wp2_with fail
  refine (nat_any a2 _ b2 b2').mono ?_
  rintro e w' ⟨rfl, rfl⟩
  generalize nat63 a0 = a at *
  generalize nat63 a1 = n at *
  generalize nat63 a2 = m at *
  by_cases hm : m = 9223372036854775807
  · subst hm
    by_cases hp : a * n ≤ 9223372036854775806
    · go_wp2_with fail
      refine (times_le a n _ _ n0 n1 (by omega) (by omega) n0' n1' hp).mono ?_
      rintro e w' ⟨rfl, rfl⟩
      go_wp2_with fail
      refine (mul64 a n n0 n1 n0' n1' _).mono ?_
      rintro e w' ⟨hi, lo, rfl, g0, g1, g2, g3, rfl⟩
      obtain ⟨rfl, rfl⟩ := plainA a n _ hi lo g0 g1 (by omega) g3 hp
      clear g3
      go_wp2
      go_ret
      exact ⟨rfl, by repeat (first | exact Grown.refl _ | apply Grown.drew | apply Grown.alloc)⟩
    · go_wp2_with fail
      refine (times_gt a n _ _ n0 n1 (by omega) (by omega) n0' n1' (by omega)).mono ?_
      rintro e w' ⟨rfl, rfl⟩
      go_wp2_with fail
      refine (mul64 a n n0 n1 n0' n1' _).mono ?_
      rintro e w' ⟨hi, lo, rfl, g0, g1, g2, g3, rfl⟩
      by_cases hz : hi = 0
      · have g4 := plainB a n _ hi lo g0 g3 hp hz
        subst hz
        clear g3 hp
        go_wp2
        go_ret
        exact ⟨rfl, by repeat (first | exact Grown.refl _ | apply Grown.drew | apply Grown.alloc)⟩
      · have g4 : (hi != 0) = true := by rw [bne_iff_ne]; exact hz
        clear g3 hp
        go_wp2
        go_ret
        exact ⟨rfl, by repeat (first | exact Grown.refl _ | apply Grown.drew | apply Grown.alloc)⟩
  · have hb := big_ne m hm
    have n2b : m ≤ 9223372036854775806 := by omega
    clear hm
    by_cases hp : a * n ≤ m
    · go_wp2_with fail
      refine (times_le a n _ _ n0 n1 (by omega) (by omega) n0' n1' hp).mono ?_
      rintro e w' ⟨rfl, rfl⟩
      go_wp2_with fail
      refine (mul64 a n n0 n1 n0' n1' _).mono ?_
      rintro e w' ⟨hi, lo, rfl, g0, g1, g2, g3, rfl⟩
      obtain ⟨rfl, rfl⟩ := plainA a n _ hi lo g0 g1 (by omega) g3 hp
      clear g3
      go_wp2
      go_ret
      exact ⟨rfl, by repeat (first | exact Grown.refl _ | apply Grown.drew | apply Grown.alloc)⟩
    · go_wp2_with fail
      refine (times_gt a n _ _ n0 n1 (by omega) (by omega) n0' n1' (by omega)).mono ?_
      rintro e w' ⟨rfl, rfl⟩
      go_wp2_with fail
      refine (mul64 a n n0 n1 n0' n1' _).mono ?_
      rintro e w' ⟨hi, lo, rfl, g0, g1, g2, g3, rfl⟩
      by_cases hz : hi = 0
      · have g4 := plainB a n _ hi lo g0 g3 hp hz
        subst hz
        clear g3 hp
        go_wp2
        go_ret
        exact ⟨rfl, by repeat (first | exact Grown.refl _ | apply Grown.drew | apply Grown.alloc)⟩
      · have g4 : (hi != 0) = true := by rw [bne_iff_ne]; exact hz
        clear g3 hp
        go_wp2
        go_ret
        exact ⟨rfl, by repeat (first | exact Grown.refl _ | apply Grown.drew | apply Grown.alloc)⟩

/-! ### THE ROW's STEP: WRITTEN OUT: LEAVE IT -/
set_option maxRecDepth 100000 in
theorem lifted (os : Os) (started : os.Started) (H : Type) (enc : TypeId × Value → H) :
    ReturnsInHanded {} Yba.checked os 3 .any (Rows.lawS3206BExactSpec.pre6 enc Yba.prog Yba.f3 Rows.lawS3206BExactRow.domain false) (Rows.lawS3206BExactSpec.post enc Yba.prog Yba.f3 false true false false) := by
  refine returnsInHanded_of_change (C := Yba.checked) own started (by kernel_rfl) Yba.func3
    (ChangeSpec.witness6 (enc := enc) (C := Yba.checked) false ⟨#[], #[.int .i64 0, .int .i64 0, .int .i64 0], []⟩ 8 (by kernel_rfl) (by kernel_rfl) (by kernel_rfl) (by kernel_rfl)) ?_
  intro W base args ds gs before hval0 hW hcnd _
  have hval : ∀ (j : Nat) t v, Yba.f3.params[j]? = some t → args[j]? = some v → Value.okWide Yba.prog W .any base t v := hval0
  have hW' := hW
  obtain ⟨p, q, hA0, hV, rfl, hfz, hnd⟩ := hW
  have hA : DataW.TrodAll enc Yba.prog W 0 (fun _ => true) true Yba.f3.params.toList args.toList ds p := hA0
  rw [Yba.params3] at hA hval
  obtain ⟨v0, vs0, d0, ds0, p0, q0, hargs, rfl, rfl, h0, r0⟩ := trodAll_cons hA
  obtain ⟨v1, vs1, d1, ds1, p1, q1, rfl, rfl, rfl, h1, r1⟩ := trodAll_cons r0
  obtain ⟨v2, vs2, d2, ds2, p2, q2, rfl, rfl, rfl, h2, r2⟩ := trodAll_cons r1
  obtain ⟨rfl, rfl, rfl⟩ := trodAll_nil r2
  obtain rfl : args = #[v0, v1, v2] := by cases args; simp_all
  obtain ⟨rfl, rfl⟩ := trodVars_none hV
  obtain ⟨a0, rfl, rfl, rfl, w0⟩ := open_int Yba.underlying2 (hval 0 2 v0 rfl rfl) h0
  obtain ⟨a1, rfl, rfl, rfl, w1⟩ := open_int Yba.underlying2 (hval 1 2 v1 rfl rfl) h1
  obtain ⟨a2, rfl, rfl, rfl, w2⟩ := open_int Yba.underlying2 (hval 2 2 v2 rfl rfl) h2
  clear hA0 hval0
  simp only [List.append_nil] at hW'
  refine (walk a0 a1 a2 w0 w1 w2 W).mono fun e W' ⟨he, hg⟩ => ?_
  subst he
  exact ⟨_, rfl, post_of_same (pa := []) (pv := []) hW' (fun _ _ _ => (trodAll_cons_mk (shut_bool Yba.underlying4 _) trodAll_mk0)) (fun sp _ => (trodAll_cons_mk (shut_int Yba.underlying2 w0) (trodAll_cons_mk (shut_int Yba.underlying2 w1) (trodAll_cons_mk (shut_int Yba.underlying2 w2) trodAll_mk0)))) (fun _ _ => rfl) rfl
    (hg.frame _) hg.2.1 (ok_one (by kernel_rfl) rfl (okWide_bool_mk Yba.underlying4 _))⟩

theorem over : Rows.lawS3206BExactRow.holds Yba.pinned (OpenSpec.ofChange Rows.lawS3206BExactSpec) :=
  OpenClaim.holds_of_wide 3 Yba.f3 rfl rfl rfl rfl rfl rfl rfl ⟨rfl, rfl, rfl, rfl, rfl⟩ rfl rfl rfl rfl rfl (by kernel_rfl) Yba.func3 (by kernel_rfl)
    (of_decide_eq_true (by kernel_rfl)) (by unfold Func.isWrapper; first | (rw [if_pos (by decide +kernel)]; kernel_rfl) | (rw [if_neg (by decide +kernel)]; exact ⟨rfl, rfl⟩))
    (fun os started H enc _ => lifted os started H enc)

/-- ████ THE STATEMENT ████ -/
theorem proved : Rows.LawS3206BExactSaid :=
  over
#print axioms proved
end Go.Proofs.Ybulkbnji.lawS3206BExact

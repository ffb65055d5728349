/- FnAskedRises: whatever the arguments, the call returns true and each argument reads afterwards as it read before. Conditions: none. -/
import Derived.Test.YtdojnocmapkodaaRows
import Derived.Test.YtdojnocmapkodaaOpen
import Derived.Test.YtdojnocmapkodaaWFnAskedRises
import Derived.WalkKit
import Derived.ProofKit
import Derived.OpenShut
import Derived.ShutString
import Derived.ChangeOld
import Derived.Below
import Derived.SizedLaws
namespace Go.Proofs.Ytdojnocmapkodaa.fnAskedRises
open Go.ChangeShapes Go.WideShapes Go.ChangeAt Go.RowKit
set_option linter.unusedVariables false
set_option linter.unusedSimpArgs false

theorem own : ownKnob Try.prog.godebug = none := by kernel_rfl
theorem laidOut : laidOutB Try.prog = true := by kernel_rfl
theorem bytes_items : Try.prog.bytesOf 27 = 16 := by kernel_rfl
theorem bytes_rank : Try.prog.bytesOf 3 = 8 := by kernel_rfl

set_option maxHeartbeats 1000000 in
set_option maxRecDepth 100000 in
theorem contract (H : Type) (enc : TypeId × Value → H) (W : World) (base : Nat) (args : Array Value) (ds gs : List (DataW H)) (before : List MemPlace)
    (hval : ∀ (j : Nat) t v, Try.f11.params[j]? = some t → args[j]? = some v → Value.okWide Try.prog W .any base t v)
    (hW : DataW.Whole enc Try.prog Try.f11.params.toList Rows.fnAskedRisesSpec.vars false W args.toList ds gs before)
    (hsz : (DataW.weightsEach Try.prog (Try.f11.params.toList ++ Rows.fnAskedRisesSpec.plain.varTypes Try.prog) (ds ++ gs)).all (· ≤ reachBytes) = true) :
    Calls Try.prog 11 args W fun e W' => ∃ v, e = .returned v ∧ Rows.fnAskedRisesSpec.post enc Try.prog Try.f11 false true false false W args v W' := by
  have hW' := hW
  obtain ⟨p, q, hA0, hV, rfl, hfz, hnd⟩ := hW
  have hA : DataW.TrodAll enc Try.prog W 0 (fun _ => true) true Try.f11.params.toList args.toList ds p := hA0
  rw [Try.params11] at hA hval hsz
  obtain ⟨v0, vs0, d0, ds0, p0, q0, hargs, rfl, rfl, h0, rest0⟩ := trodAll_cons hA
  obtain ⟨v1, vs1, d1, ds1, p1, q1, rfl, rfl, rfl, h1, rest1⟩ := trodAll_cons rest0
  obtain ⟨rfl, rfl, rfl⟩ := trodAll_nil rest1
  obtain rfl : args = #[v0, v1] := by cases args; simp_all
  obtain ⟨rfl, rfl⟩ := trodVars_none hV
  have k0 := h0
  have lt0 := trod_lt_of k0
  obtain ⟨A0, n0, c0, l0, rfl, r0, z0, le0, mx0, g0⟩ := arg_items Try.underlying22 Try.underlying27 (by kernel_rfl) (by kernel_rfl) rfl rfl Try.underlying3 (hval 0 22 v0 rfl rfl) h0
  have b0 := g0.bytes hsz (j := 0) rfl rfl Try.underlying22
  rw [bytes_items] at b0
  have k1 := h1
  have lt1 := trod_lt_of k1
  obtain ⟨A1, n1, c1, l1, e1, rfl, r1, z1, le1, mx1, rfl, g1⟩ := arg_order Try.underlying25 (by kernel_rfl) (by kernel_rfl) rfl Try.underlying23 Try.underlying3 (by kernel_rfl) (hval 1 25 v1 rfl rfl) h1
  have b1 := order_bytes g1 hsz (j := 1) rfl rfl Try.underlying25 rfl Try.underlying23
  rw [bytes_rank] at b1
  clear hA0
  refine (wFnAskedRises A0 n0 c0 l0 A1 n1 c1 l1 W r0 z0 le0 b0 r1 z1 le1 b1).mono fun e W' ⟨he, bel⟩ => ?_
  subst he
  exact ⟨_, rfl, _, _, _, [], _, [], hW', trodAll_mk1 (shut_bool Try.underlying4 _), (trodAll_cons_mk (Below.trod laidOut (by kernel_rfl) (of_decide_eq_true (by kernel_rfl)) k0 bel lt0) (trodAll_cons_mk (Below.trod laidOut (by kernel_rfl) (of_decide_eq_true (by kernel_rfl)) k1 bel lt1) trodAll_mk0)), rfl, bel.frame _, fun h => by cases h⟩

set_option maxRecDepth 100000 in
theorem lifted (os : Os) (started : os.Started) (H : Type) (enc : TypeId × Value → H) :
    ReturnsInHanded {} Try.checked os 11 .any (Rows.fnAskedRisesSpec.pre6 enc Try.prog Try.f11 Rows.fnAskedRisesRow.domain false) (Rows.fnAskedRisesSpec.post enc Try.prog Try.f11 false true false false) := by
  refine returnsInHanded_of_change_sized (C := Try.checked) own started (by kernel_rfl) Try.func11
    (ChangeSpec.witness6 (enc := enc) (C := Try.checked) false ⟨#[], #[.slice none 0 0, .agg #[.slice none 0 0]], []⟩ 8 (by kernel_rfl) (by kernel_rfl) (by kernel_rfl) (by kernel_rfl)) ?_
  intro W base args ds gs before hval hW _ hsz _
  exact contract H enc W base args ds gs before hval hW hsz

theorem proved : Rows.FnAskedRisesSaid :=
  OpenClaim.holds_of_wide 11 Try.f11 rfl rfl rfl rfl rfl rfl rfl ⟨rfl, rfl, rfl, rfl, rfl⟩ rfl rfl rfl rfl rfl (by kernel_rfl) Try.func11 (by kernel_rfl)
    (of_decide_eq_true (by kernel_rfl)) (by unfold Func.isWrapper; first | (rw [if_pos (by decide +kernel)]; kernel_rfl) | (rw [if_neg (by decide +kernel)]; exact ⟨rfl, rfl⟩))
    (fun os started H enc _ => lifted os started H enc)
#print axioms proved
end Go.Proofs.Ytdojnocmapkodaa.fnAskedRises

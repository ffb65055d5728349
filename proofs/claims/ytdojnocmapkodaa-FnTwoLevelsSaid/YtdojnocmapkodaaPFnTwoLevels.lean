/- FnTwoLevels: whatever the arguments, the call returns true and each argument reads afterwards as it read before. Conditions: none. -/
import Derived.Test.YtdojnocmapkodaaRows
import Derived.Test.YtdojnocmapkodaaOpen
import Derived.Test.YtdojnocmapkodaaWFnTwoLevels
import Derived.WalkKit
import Derived.ProofKit
import Derived.OpenShut
import Derived.ShutString
import Derived.ChangeOld
import Derived.Below
import Derived.SizedLaws
namespace Go.Proofs.Ytdojnocmapkodaa.fnTwoLevels
open Go.ChangeShapes Go.WideShapes Go.ChangeAt Go.RowKit
set_option linter.unusedVariables false
set_option linter.unusedSimpArgs false

theorem own : ownKnob Try.prog.godebug = none := by kernel_rfl
theorem laidOut : laidOutB Try.prog = true := by kernel_rfl
theorem bytes_items : Try.prog.bytesOf 27 = 16 := by kernel_rfl
theorem bytes_rank : Try.prog.bytesOf 3 = 8 := by kernel_rfl

set_option maxHeartbeats 1000000 in
set_option maxRecDepth 100000 in
theorem contract (H : Type) (enc : TypeId × Value → H) (W : World) (base : Nat) (args : Array Value) (ds gs : List (DataW H)) (before : List MemPlace)
    (hval : ∀ (j : Nat) t v, Try.f10.params[j]? = some t → args[j]? = some v → Value.okWide Try.prog W .any base t v)
    (hW : DataW.Whole enc Try.prog Try.f10.params.toList Rows.fnTwoLevelsSpec.vars false W args.toList ds gs before)
    (hsz : (DataW.weightsEach Try.prog (Try.f10.params.toList ++ Rows.fnTwoLevelsSpec.plain.varTypes Try.prog) (ds ++ gs)).all (· ≤ reachBytes) = true) :
    Calls Try.prog 10 args W fun e W' => ∃ v, e = .returned v ∧ Rows.fnTwoLevelsSpec.post enc Try.prog Try.f10 false true false false W args v W' := by
  have hW' := hW
  obtain ⟨p, q, hA0, hV, rfl, hfz, hnd⟩ := hW
  have hA : DataW.TrodAll enc Try.prog W 0 (fun _ => true) true Try.f10.params.toList args.toList ds p := hA0
  rw [Try.params10] at hA hval hsz
  obtain ⟨v0, vs0, d0, ds0, p0, q0, hargs, rfl, rfl, h0, rest0⟩ := trodAll_cons hA
  obtain ⟨v1, vs1, d1, ds1, p1, q1, rfl, rfl, rfl, h1, rest1⟩ := trodAll_cons rest0
  obtain ⟨v2, vs2, d2, ds2, p2, q2, rfl, rfl, rfl, h2, rest2⟩ := trodAll_cons rest1
  obtain ⟨v3, vs3, d3, ds3, p3, q3, rfl, rfl, rfl, h3, rest3⟩ := trodAll_cons rest2
  obtain ⟨rfl, rfl, rfl⟩ := trodAll_nil rest3
  obtain rfl : args = #[v0, v1, v2, v3] := by cases args; simp_all
  obtain ⟨rfl, rfl⟩ := trodVars_none hV
  have k0 := h0
  have lt0 := trod_lt_of k0
  obtain ⟨A0, n0, c0, l0, rfl, r0, z0, le0, mx0, g0⟩ := arg_items Try.underlying22 Try.underlying27 (by kernel_rfl) (by kernel_rfl) rfl rfl Try.underlying3 (hval 0 22 v0 rfl rfl) h0
  have b0 := g0.bytes hsz (j := 0) rfl rfl Try.underlying22
  rw [bytes_items] at b0
  have k1 := h1
  have lt1 := trod_lt_of k1
  obtain ⟨x1, rfl, i1⟩ := arg_item Try.underlying27 (by kernel_rfl) (by kernel_rfl) rfl rfl Try.underlying3 (hval 1 27 v1 rfl rfl) h1
  have k2 := h2
  have lt2 := trod_lt_of k2
  obtain ⟨A2, n2, c2, l2, e2, rfl, r2, z2, le2, mx2, rfl, g2⟩ := arg_order Try.underlying25 (by kernel_rfl) (by kernel_rfl) rfl Try.underlying23 Try.underlying3 (by kernel_rfl) (hval 2 25 v2 rfl rfl) h2
  have b2 := order_bytes g2 hsz (j := 2) rfl rfl Try.underlying25 rfl Try.underlying23
  rw [bytes_rank] at b2
  have k3 := h3
  have lt3 := trod_lt_of k3
  obtain ⟨a3, rfl, rfl, rfl, wf3⟩ := open_int Try.underlying3 (hval 3 3 v3 rfl rfl) h3
  have i3 := inI_of_wf wf3
  clear hA0
  refine (wFnTwoLevels A0 n0 c0 l0 x1 A2 n2 c2 l2 a3 W r0 z0 le0 b0 i1 r2 z2 le2 b2 i3).mono fun e W' ⟨he, bel⟩ => ?_
  subst he
  exact ⟨_, rfl, _, _, _, [], _, [], hW', trodAll_mk1 (shut_bool Try.underlying4 _), (trodAll_cons_mk (Below.trod laidOut (by kernel_rfl) (of_decide_eq_true (by kernel_rfl)) k0 bel lt0) (trodAll_cons_mk (Below.trod laidOut (by kernel_rfl) (of_decide_eq_true (by kernel_rfl)) k1 bel lt1) (trodAll_cons_mk (Below.trod laidOut (by kernel_rfl) (of_decide_eq_true (by kernel_rfl)) k2 bel lt2) (trodAll_cons_mk (Below.trod laidOut (by kernel_rfl) (of_decide_eq_true (by kernel_rfl)) k3 bel lt3) trodAll_mk0)))), rfl, bel.frame _, fun h => by cases h⟩

set_option maxRecDepth 100000 in
theorem lifted (os : Os) (started : os.Started) (H : Type) (enc : TypeId × Value → H) :
    ReturnsInHanded {} Try.checked os 10 .any (Rows.fnTwoLevelsSpec.pre6 enc Try.prog Try.f10 Rows.fnTwoLevelsRow.domain false) (Rows.fnTwoLevelsSpec.post enc Try.prog Try.f10 false true false false) := by
  refine returnsInHanded_of_change_sized (C := Try.checked) own started (by kernel_rfl) Try.func10
    (ChangeSpec.witness6 (enc := enc) (C := Try.checked) false ⟨#[], #[.slice none 0 0, .agg #[.int .i64 0, .int .i64 0], .agg #[.slice none 0 0], .int .i64 0], []⟩ 8 (by kernel_rfl) (by kernel_rfl) (by kernel_rfl) (by kernel_rfl)) ?_
  intro W base args ds gs before hval hW _ hsz _
  exact contract H enc W base args ds gs before hval hW hsz

theorem proved : Rows.FnTwoLevelsSaid :=
  OpenClaim.holds_of_wide 10 Try.f10 rfl rfl rfl rfl rfl rfl rfl ⟨rfl, rfl, rfl, rfl, rfl⟩ rfl rfl rfl rfl rfl (by kernel_rfl) Try.func10 (by kernel_rfl)
    (of_decide_eq_true (by kernel_rfl)) (by unfold Func.isWrapper; first | (rw [if_pos (by decide +kernel)]; kernel_rfl) | (rw [if_neg (by decide +kernel)]; exact ⟨rfl, rfl⟩))
    (fun os started H enc _ => lifted os started H enc)
#print axioms proved
end Go.Proofs.Ytdojnocmapkodaa.fnTwoLevels

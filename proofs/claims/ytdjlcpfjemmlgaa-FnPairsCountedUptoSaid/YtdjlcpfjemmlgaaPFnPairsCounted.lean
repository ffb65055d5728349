/- FnPairsCounted: whatever the arguments, the call returns true and each argument reads afterwards as it read before. Conditions: the arguments together hold at most 1048576 values (the Upto statement). -/
import Derived.Test.YtdjlcpfjemmlgaaRows
import Derived.Test.YtdjlcpfjemmlgaaOpen
import Derived.Test.YtdjlcpfjemmlgaaWFnPairsCounted
import Derived.WalkKit
import Derived.ProofKit
import Derived.OpenShut
import Derived.ShutString
import Derived.ChangeOld
import Derived.Below
import Derived.SizedLaws
import Derived.JoinedCond
import Derived.Deep.CondSized
namespace Go.Proofs.Ytdjlcpfjemmlgaa.fnPairsCounted
open Go.ChangeShapes Go.WideShapes Go.ChangeAt Go.RowKit
set_option linter.unusedVariables false
set_option linter.unusedSimpArgs false

theorem own : ownKnob Try.prog.godebug = none := by kernel_rfl
theorem laidOut : laidOutB Try.prog = true := by kernel_rfl
theorem bytes_items : Try.prog.bytesOf 29 = 16 := by kernel_rfl
theorem bytes_rank : Try.prog.bytesOf 3 = 8 := by kernel_rfl
theorem short {H : Type} {l : List (DataW H)} (hk : Rows.uptoSmall H l = true) : Rows.uptoBulkAll l ≤ 1048576 := of_decide_eq_true hk
theorem one_le {H : Type} (d : DataW H) : 1 ≤ Rows.uptoBulk d := by
  cases d with
  | lit l => cases l <;> simp [Rows.uptoBulk]
  | nil => simp [Rows.uptoBulk]
  | ptr d => simp [Rows.uptoBulk]
  | slice elems spare => simp [Rows.uptoBulk]
  | agg parts => simp [Rows.uptoBulk]
  | iface t d => simp [Rows.uptoBulk]
  | map entries => simp [Rows.uptoBulk]
  | held h => simp [Rows.uptoBulk]
theorem part_le {H : Type} {d : DataW H} {l : List (DataW H)} (h : d ∈ l) : Rows.uptoBulk d ≤ Rows.uptoBulkAll l := by
  induction l with
  | nil => cases h
  | cons x r ih =>
    simp only [Rows.uptoBulkAll]
    cases List.mem_cons.1 h with
    | inl e => subst e; omega
    | inr e => have := ih e; omega
theorem length_le {H : Type} (l : List (DataW H)) : l.length ≤ Rows.uptoBulkAll l := by
  induction l with
  | nil => simp [Rows.uptoBulkAll]
  | cons x r ih => have := one_le x; simp only [Rows.uptoBulkAll, List.length_cons]; omega
theorem dlen_le {H : Type} {d : DataW H} {n c : Nat} {l : List (DataW H)} (hd : DLen d n c) (hm : d ∈ l) (hk : Rows.uptoSmall H l = true) : c ≤ 1048576 := by
  have h1 := short hk
  have h2 := part_le hm
  rcases hd with ⟨_, _, rfl⟩ | ⟨el, spr, rfl, _, hl⟩
  · omega
  · have h3 := length_le el
    have h4 := length_le spr
    simp only [Rows.uptoBulk] at h2
    omega

set_option maxHeartbeats 1000000 in
set_option maxRecDepth 100000 in
theorem contract (H : Type) (enc : TypeId × Value → H) (W : World) (base : Nat) (args : Array Value) (ds gs : List (DataW H)) (before : List MemPlace)
    (hval : ∀ (j : Nat) t v, Try.f3.params[j]? = some t → args[j]? = some v → Value.okWide Try.prog W .any base t v)
    (hW : DataW.Whole enc Try.prog Try.f3.params.toList Rows.fnPairsCountedSpec.vars false W args.toList ds gs before) (hk : Rows.uptoSmall H (ds ++ gs) = true)
    (hsz : (DataW.weightsEach Try.prog (Try.f3.params.toList ++ Rows.fnPairsCountedSpec.plain.varTypes Try.prog) (ds ++ gs)).all (· ≤ reachBytes) = true) :
    Calls Try.prog 3 args W fun e W' => ∃ v, e = .returned v ∧ Rows.fnPairsCountedSpec.post enc Try.prog Try.f3 false true false false W args v W' := by
  have hW' := hW
  obtain ⟨p, q, hA0, hV, rfl, hfz, hnd⟩ := hW
  have hA : DataW.TrodAll enc Try.prog W 0 (fun _ => true) true Try.f3.params.toList args.toList ds p := hA0
  rw [Try.params3] at hA hval hsz
  obtain ⟨v0, vs0, d0, ds0, p0, q0, hargs, rfl, rfl, h0, rest0⟩ := trodAll_cons hA
  obtain ⟨v1, vs1, d1, ds1, p1, q1, rfl, rfl, rfl, h1, rest1⟩ := trodAll_cons rest0
  obtain ⟨v2, vs2, d2, ds2, p2, q2, rfl, rfl, rfl, h2, rest2⟩ := trodAll_cons rest1
  obtain ⟨v3, vs3, d3, ds3, p3, q3, rfl, rfl, rfl, h3, rest3⟩ := trodAll_cons rest2
  obtain ⟨rfl, rfl, rfl⟩ := trodAll_nil rest3
  obtain rfl : args = #[v0, v1, v2, v3] := by cases args; simp_all
  obtain ⟨rfl, rfl⟩ := trodVars_none hV
  have k0 := h0
  have lt0 := trod_lt_of k0
  obtain ⟨A0, n0, c0, l0, rfl, r0, z0, le0, mx0, g0⟩ := arg_items Try.underlying22 Try.underlying29 (by kernel_rfl) (by kernel_rfl) rfl rfl Try.underlying3 (hval 0 22 v0 rfl rfl) h0
  have b0 := g0.bytes hsz (j := 0) rfl rfl Try.underlying22
  rw [bytes_items] at b0
  have u0 := dlen_le g0 (show d0 ∈ _ by simp) hk
  have k1 := h1
  have lt1 := trod_lt_of k1
  obtain ⟨A1, n1, c1, l1, rfl, r1, z1, le1, mx1, g1⟩ := arg_items Try.underlying22 Try.underlying29 (by kernel_rfl) (by kernel_rfl) rfl rfl Try.underlying3 (hval 1 22 v1 rfl rfl) h1
  have b1 := g1.bytes hsz (j := 1) rfl rfl Try.underlying22
  rw [bytes_items] at b1
  have u1 := dlen_le g1 (show d1 ∈ _ by simp) hk
  have k2 := h2
  have lt2 := trod_lt_of k2
  obtain ⟨A2, n2, c2, l2, e2, rfl, r2, z2, le2, mx2, rfl, g2⟩ := arg_order Try.underlying25 (by kernel_rfl) (by kernel_rfl) rfl Try.underlying23 Try.underlying3 (by kernel_rfl) (hval 2 25 v2 rfl rfl) h2
  have b2 := order_bytes g2 hsz (j := 2) rfl rfl Try.underlying25 rfl Try.underlying23
  rw [bytes_rank] at b2
  have k3 := h3
  have lt3 := trod_lt_of k3
  obtain ⟨a3, rfl, rfl, rfl, wf3⟩ := open_int Try.underlying3 (hval 3 3 v3 rfl rfl) h3
  have i3 := inI_of_wf wf3
  clear hA0
  refine (wFnPairsCounted A0 n0 c0 l0 A1 n1 c1 l1 A2 n2 c2 l2 a3 W r0 z0 le0 b0 u0 r1 z1 le1 b1 u1 r2 z2 le2 b2 i3).mono fun e W' ⟨he, bel⟩ => ?_
  subst he
  exact ⟨_, rfl, _, _, _, [], _, [], hW', trodAll_mk1 (shut_bool Try.underlying4 _), (trodAll_cons_mk (Below.trod laidOut (by kernel_rfl) (of_decide_eq_true (by kernel_rfl)) k0 bel lt0) (trodAll_cons_mk (Below.trod laidOut (by kernel_rfl) (of_decide_eq_true (by kernel_rfl)) k1 bel lt1) (trodAll_cons_mk (Below.trod laidOut (by kernel_rfl) (of_decide_eq_true (by kernel_rfl)) k2 bel lt2) (trodAll_cons_mk (Below.trod laidOut (by kernel_rfl) (of_decide_eq_true (by kernel_rfl)) k3 bel lt3) trodAll_mk0)))), rfl, bel.frame _, fun h => by cases h⟩

set_option maxRecDepth 100000 in
theorem lifted (os : Os) (started : os.Started) (H : Type) (enc : TypeId × Value → H) (F : Stop.Interp) :
    ReturnsInHanded {} Try.checked os 3 .any ((Rows.OpenSpec.upto Rows.fnPairsCountedSpec).pre6 enc Try.prog Try.f3 Rows.fnPairsCountedUptoRow.domain false) (((Rows.OpenSpec.upto Rows.fnPairsCountedSpec).at F).post enc Try.prog Try.f3 false true false false) := by
  refine returnsInHanded_of_cond_sized (C := Try.checked) (s := Rows.OpenSpec.upto Rows.fnPairsCountedSpec) (k := Rows.uptoSmall) rfl own started (by kernel_rfl) Try.func3
    (OpenSpec.witness (enc := enc) (C := Try.checked) (s := Rows.OpenSpec.upto Rows.fnPairsCountedSpec) (k := Rows.uptoSmall) rfl false ⟨#[], #[.slice none 0 0, .slice none 0 0, .agg #[.slice none 0 0], .int .i64 0], []⟩ 8 (by kernel_rfl) (by kernel_rfl) (by kernel_rfl)
      (x := ([.nil, .nil, .agg [.nil], .lit (.int .i64 0)], [], [])) (by kernel_rfl) rfl (by kernel_rfl)) ?_
  intro W base args ds gs before hval hW _ hk hsz _
  exact contract H enc W base args ds gs before hval hW hk hsz

theorem proved : Rows.FnPairsCountedUptoSaid :=
  OpenClaim.holds_of_cond 3 Try.f3 rfl rfl rfl rfl rfl rfl rfl ⟨rfl, rfl, rfl, rfl, rfl⟩ rfl rfl rfl rfl rfl (by kernel_rfl) Try.func3 (by kernel_rfl)
    (of_decide_eq_true (by kernel_rfl)) (by unfold Func.isWrapper; first | (rw [if_pos (by decide +kernel)]; kernel_rfl) | (rw [if_neg (by decide +kernel)]; exact ⟨rfl, rfl⟩))
    (fun os started H enc _ F => lifted os started H enc F)
#print axioms proved
end Go.Proofs.Ytdjlcpfjemmlgaa.fnPairsCounted

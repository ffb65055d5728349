/- FnInverse returns true: for every list and every order. -/
import Derived.Test.YtdojnocmapkodaaImplStable
import Derived.Test.YtdojnocmapkodaaSwapped
import Derived.Test.YtdojnocmapkodaaIdentity
import Derived.Test.YtdojnocmapkodaaSteps
import Derived.Test.YtdojnocmapkodaaOpen
namespace Go.Proofs.Ytdojnocmapkodaa
open Go.RowKit
attribute [local go_sem ↓] Go.wp_at_zero Go.wp_at_succ
theorem take_set_snoc {β : Type} (o m : List β) (i : Nat) (x : β) (ho : i < o.length) (hm : i < m.length) (h : o.take i = m.take i) (hx : m[i] = x) : (o.set i x).take (i + 1) = m.take (i + 1) := by
  rw [take_snoc m i hm, ← h, hx, take_snoc (o.set i x) i (by rw [List.length_set]; exact ho), List.getElem_set_self, List.take_set_of_le (Nat.le_refl i)]

set_option linter.unusedSimpArgs false in
set_option maxHeartbeats 4000000 in
theorem wFnInverse (A0 : Option Addr) (n0 c0 : Nat) (l0 : List (Int × Int)) (A1 : Option Addr) (n1 c1 : Nat) (R : List Int) (w : World)
    (r0 : Rd w w.heap.size 2 A0 n0 (cI l0)) (_z0 : ∀ y ∈ l0, InI y.1 ∧ InI y.2) (le0 : n0 ≤ c0) (b0 : c0 * 16 ≤ 140737488351232)
    (r1 : Rd w w.heap.size 1 A1 n1 (cZ R)) (_z1 : ∀ y ∈ R, InI y) (_le1 : n1 ≤ c1) (_b1 : c1 * 8 ≤ 140737488351232) :
    Calls Try.prog 3 #[.slice A0 n0 c0, .agg #[.slice A1 n1 c1]] w fun e w' => e = .returned (.bool true) ∧ Below w.heap.size w w' := by
  clear _z0 _z1 _le1 _b1
  have hn : n0 * 16 ≤ 140737488351232 := by omega
  have HL := Lib.hid (rdI_len r0)
  have hb0 := below_alloc1 w (.cells #[.slice A1 n1 c1] 25)
  have d2 : (w.alloc (.cells #[.slice A1 n1 c1] 25)).cell? ⟨w.heap.size, 0, none⟩ = some (.slice A1 n1 c1) := by simp [go_sem]
  have ra := Lib.hid (r0.on hb0)
  have rr := Lib.hid (r1.on hb0)
  clear r0 r1 le0 b0
  obtain ⟨i0, z0, hi0, hz0, hs0, hbb0, _⟩ := eI.info
  have hz0' : i0.zero = some (.agg #[.int .i64 0, .int .i64 0]) := by
    have h : (Try.prog.info? 27).map (fun i => i.zero) = some (some (.agg #[.int .i64 0, .int .i64 0])) := by kernel_rfl
    rw [hi0] at h
    simpa using h
  have hmk := fun W => run_make_row2 (P := Try.prog) 22 27 i0 _ eI.ht hi0 hz0' 2 16 hs0 hbb0 n0 (by omega) (by omega) W
  clear hi0 hz0 hs0 hbb0 hz0'
  have HLaw : Hid (∀ i, i < n0 → ∃ k : Nat, (it (stab (rJ R) (plc l0)) i).2 = (k : Int) ∧ k < n0 ∧ it (stab (rJ (digs n0 1 (max n0 1))) (swpq (stab (rJ R) (plc l0)))) k = ((k : Int), (i : Int)) ∧
      (it (stab (rJ (digs n0 1 (max n0 1))) (swpq (stab (rJ (digs n0 1 (max n0 1))) (swpq (stab (rJ R) (plc l0)))))) i).2 = (k : Int)) := fun i hi => inv_law R l0 n0 HL.out i hi
  go_enter Try.func3, Try.ntmps3
  go_wp2_with fail
  have hws : (w.alloc (.cells #[.slice A1 n1 c1] 25)).heap.size = w.heap.size + 1 := by simp
  generalize w.alloc (.cells #[.slice A1 n1 c1] 25) = W at *
  rw [← hws]
  clear hws
  go_loopw [18] (fun s wr => ∃ (i : Nat) (o : List (Int × Int)), i ≤ n0 ∧ s = .int .i64 i ∧ Hid (o.length = n0) ∧ wr.ownsRow W.heap.size 27 2 (.slice (some ⟨W.heap.size, 0, none⟩) n0 n0) n0 (cI o) ∧ Below W.heap.size W wr ∧
    Hid (o.take i = (plc l0).take i)) (fun s _ => n0 - (intOf s).toNat)
  case atStart => exact ⟨0, List.replicate n0 (0, 0), Nat.zero_le _, rfl, List.length_replicate, by
    rw [← made_items]
    exact World.ownsRow_lit W _ n0 (Nat.le_refl _) (by unfold maxLen; omega) (size_madeCells _ _), below_alloc1 W _, rfl⟩
  case round =>
    obtain ⟨i, o, hi, rfl, HO, hown, hbel, I⟩ := hrel
    by_cases hlt : i < n0
    · obtain ⟨b, off, rfl, hb, hc1, hc2⟩ := rdI_at (k := i) (ra.out.on hbel) hlt
      have hil : i < l0.length := by rw [HL.out]; exact hlt
      have hpo : i < o.length := by rw [HO.out]; exact hlt
      have HX : Hid ((plc l0)[i]? = some ((it l0 i).1, (i : Int))) := by
        unfold Hid
        rw [it_lt hil]
        simp [plc, hil]
      obtain ⟨x, hx⟩ : ∃ x, x = it l0 i := ⟨_, rfl⟩
      rw [← hx] at hc1 hc2 HX
      clear hx
      have I2 : Hid ((o.set i (x.1, (i : Int))).take (i + 1) = (plc l0).take (i + 1)) := by
        obtain ⟨h1, h2⟩ := List.getElem?_eq_some_iff.1 HX.out
        exact take_set_snoc o (plc l0) i _ hpo h1 I.out h2
      have hbx := hbel.alloc hbel.size (.cells #[.int .i64 x.1, .int .i64 x.2] 27)
      have own2 := hown.alloc (.cells #[.int .i64 x.1, .int .i64 x.2] 27)
      have y0 : (wr.alloc (.cells #[.int .i64 x.1, .int .i64 x.2] 27)).cell? ⟨wr.heap.size, 0, none⟩ = some (.int .i64 x.1) := by simp [go_sem]
      have q0 : (0 : Int) ≤ (i : Int) := Int.natCast_nonneg _
      have q1 : (i : Int) < (n0 : Int) := by omega
      obtain ⟨s1, g1⟩ := hown.stored (i * 2) (.int .i64 x.1)
      obtain ⟨s2, g2⟩ := s1.stored (i * 2 + 1) (.int .i64 (i : Int))
      rw [show ((cI o).set (i * 2) (.int .i64 x.1)).set (i * 2 + 1) (.int .i64 (i : Int)) = cI (o.set i (x.1, (i : Int))) from cI_set o i (x.1, (i : Int))] at s2
      have s3 := s2.alloc (.cells #[.int .i64 x.1, .int .i64 x.2] 27)
      clear s2
      have x1 : wr.cell? ⟨W.heap.size, i * 2, none⟩ = some (.int .i64 (it o i).1) := by
        rw [hown.cellAt _ (by omega), Nat.mul_comm, (cI_at o i hpo).1, it_lt hpo]
      have x2 : wr.cell? ⟨W.heap.size, i * 2 + 1, none⟩ = some (.int .i64 (it o i).2) := by
        rw [hown.cellAt _ (by omega), Nat.mul_comm, (cI_at o i hpo).2, it_lt hpo]
      have x1' : (wr.alloc (.cells #[.int .i64 x.1, .int .i64 x.2] 27)).cell? ⟨W.heap.size, i * 2, none⟩ = some (.int .i64 (it o i).1) := by
        rw [own2.cellAt _ (by omega), Nat.mul_comm, (cI_at o i hpo).1, it_lt hpo]
      have x2' : (wr.alloc (.cells #[.int .i64 x.1, .int .i64 x.2] 27)).cell? ⟨W.heap.size, i * 2 + 1, none⟩ = some (.int .i64 (it o i).2) := by
        rw [own2.cellAt _ (by omega), Nat.mul_comm, (cI_at o i hpo).2, it_lt hpo]
      have f1 := hown.frozenAt (i * 2)
      have f2 := hown.frozenAt (i * 2 + 1)
      have f1' := own2.frozenAt (i * 2)
      have f2' := own2.frozenAt (i * 2 + 1)
      have hgl := (hown.lt W.heap.size rfl).2
      have HO2 : Hid ((o.set i (x.1, (i : Int))).length = n0) := by unfold Hid; rw [List.length_set]; exact HO.out
      have b2 := (hbel.setCell (p := ⟨W.heap.size, i * 2, none⟩) (Nat.le_refl _) (.int .i64 x.1)).setCell (p := ⟨W.heap.size, i * 2 + 1, none⟩) (Nat.le_refl _) (.int .i64 (i : Int))
      have b3 := b2.alloc b2.size (.cells #[.int .i64 x.1, .int .i64 x.2] 27)
      clear b2 s1 g1 g2 own2 hown hpo
      go_wp2
      go_roundw
      case rel => exact ⟨i + 1, _, by omega, by go_num, HO2, s3, b3, I2⟩
      case measure => simp [intOf]; omega
    · obtain rfl : i = n0 := by omega
      have e : o = plc l0 := by
        have h := I.out
        rwa [List.take_of_length_le (by rw [HO.out]; exact Nat.le_refl _), List.take_of_length_le (by rw [plc_len, HL.out]; exact Nat.le_refl _)] at h
      rw [e] at hown
      have rp := Lib.hid (Rd.of_own hown)
      have e2 := cell_on hbel d2
      have rr2 := Lib.hid (rr.out.on hbel)
      have bw := below_step hb0 hbel
      clear e hown ra d2 hb0 hbel hmk HO I rr
      obtain ⟨D, hD⟩ : ∃ D, D = digs i 1 (max i 1) := ⟨_, rfl⟩
      have hid := fun w => identity_any i w (by omega)
      rw [← hD] at HLaw hid
      have HID := Lib.hid hid
      clear hid hD
      go_wp2_with fail
      refine (Stable_any R A1 n1 c1 (plc l0) (some ⟨W.heap.size, 0, none⟩) i i _ rr2.out rp.out (by omega)).mono ?_
      rintro e w1 ⟨A3, c3, rfl, o3, hb1⟩
      have rP := Lib.hid (Rd.of_own o3)
      clear o3 rp rr2 e2
      obtain ⟨mP, hP⟩ : ∃ m, m = stab (rJ R) (plc l0) := ⟨_, rfl⟩
      rw [← hP] at rP HLaw
      have bw1 := below_step bw hb1
      clear hP hb1 bw
      go_wp2_with fail
      refine (swapped_any mP A3 i c3 _ rP.out (by omega)).mono ?_
      rintro e w2 ⟨A4, c4, rfl, o4, hb2⟩
      have rS := Lib.hid (Rd.of_own o4)
      have rP2 := Lib.hid (rP.out.on hb2)
      have bw2 := below_step bw1 hb2
      clear o4 rP bw1 hb2
      go_wp2_with fail
      refine (HID.out _).mono ?_
      rintro e w3 ⟨A5, c5, rfl, o5, hb3⟩
      have rD := Lib.hid (Rd.of_own o5)
      have rP3 := Lib.hid (rP2.out.on hb3)
      have rS3 := Lib.hid (rS.out.on hb3)
      have bw3 := below_step bw2 hb3
      clear o5 rP2 rS bw2 hb3
      go_wp2_with fail
      refine (Stable_any D A5 i c5 (swpq mP) A4 i c4 _ rD.out rS3.out (by omega)).mono ?_
      rintro e w4 ⟨A6, c6, rfl, o6, hb4⟩
      have rQ := Lib.hid (Rd.of_own o6)
      have rP4 := Lib.hid (rP3.out.on hb4)
      have bw4 := below_step bw3 hb4
      clear o6 rP3 rS3 rD bw3 hb4
      obtain ⟨mQ, hQ⟩ : ∃ m, m = stab (rJ D) (swpq mP) := ⟨_, rfl⟩
      rw [← hQ] at rQ HLaw
      clear hQ
      go_wp2_with fail
      refine (swapped_any mQ A6 i c6 _ rQ.out (by omega)).mono ?_
      rintro e w5 ⟨A7, c7, rfl, o7, hb5⟩
      have rS := Lib.hid (Rd.of_own o7)
      have rP5 := Lib.hid (rP4.out.on hb5)
      have rQ5 := Lib.hid (rQ.out.on hb5)
      have bw5 := below_step bw4 hb5
      clear o7 rP4 rQ bw4 hb5
      go_wp2_with fail
      refine (HID.out _).mono ?_
      rintro e w6 ⟨A8, c8, rfl, o8, hb6⟩
      have rD := Lib.hid (Rd.of_own o8)
      have rP6 := Lib.hid (rP5.out.on hb6)
      have rQ6 := Lib.hid (rQ5.out.on hb6)
      have rS6 := Lib.hid (rS.out.on hb6)
      have bw6 := below_step bw5 hb6
      clear o8 rP5 rQ5 rS bw5 hb6
      go_wp2_with fail
      refine (Stable_any D A8 i c8 (swpq mQ) A7 i c7 _ rD.out rS6.out (by omega)).mono ?_
      rintro e w7 ⟨A9, c9, rfl, o9, hb7⟩
      have rR := Lib.hid (Rd.of_own o9)
      have rP7 := Lib.hid (rP6.out.on hb7)
      have rQ7 := Lib.hid (rQ6.out.on hb7)
      have bw7 := below_step bw6 hb7
      clear o9 rP6 rQ6 rS6 rD bw6 hb7 HID
      obtain ⟨mR, hR⟩ : ∃ m, m = stab (rJ D) (swpq mQ) := ⟨_, rfl⟩
      rw [← hR] at rR HLaw
      clear hR
      go_wp2_with fail
      go_loopw [67] (fun s wr => ∃ j : Nat, j ≤ i ∧ s = .int .i64 j ∧ w7 = wr) (fun s _ => i - (intOf s).toNat)
      case atStart => exact ⟨0, Nat.zero_le _, rfl, rfl⟩
      case round =>
        obtain ⟨j, hj, rfl, rfl⟩ := hrel
        by_cases hlj : j < i
        · obtain ⟨k, h1, h2, h3, h4⟩ := HLaw.out j hlj
          obtain ⟨bp, op, rfl, _, p1, p2⟩ := rdI_at (k := j) rP7.out hlj
          obtain ⟨bq, oq, rfl, _, k1, k2⟩ := rdI_at (k := k) rQ7.out h2
          obtain ⟨br, oR, rfl, _, m1, m2⟩ := rdI_at (k := j) rR.out hlj
          rw [h1] at p2
          rw [h3] at k1 k2
          rw [h4] at m2
          clear h1 h3 h4
          have q0 : (0 : Int) ≤ (k : Int) := Int.natCast_nonneg _
          have q1 : (k : Int) < (i : Int) := by omega
          have q2 : decide ((k : Int) < 0) = false := decide_eq_false (by omega)
          have q3 : decide ((i : Int) ≤ (k : Int)) = false := decide_eq_false (by omega)
          have q4 : decide (i ≤ k) = false := decide_eq_false (by omega)
          go_wp2
          go_roundw
          case rel => exact ⟨j + 1, by omega, by go_num, by first | rfl | trivial⟩
          case measure => simp [intOf]; omega
        · obtain rfl : j = i := by omega
          go_wp2
          go_ret
          exact ⟨rfl, bw7⟩
end Go.Proofs.Ytdojnocmapkodaa

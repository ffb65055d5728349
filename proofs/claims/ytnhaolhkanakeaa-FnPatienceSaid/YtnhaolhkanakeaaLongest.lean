/- The contract of spec.Longest: the length of the longest rising part. -/
import Derived.Test.YtnhaolhkanakeaaCountsPlain
import Derived.Test.YtnhaolhkanakeaaPatPlain
import Derived.Test.YtnhaolhkanakeaaTheirs
import Derived.Test.YtnhaolhkanakeaaSteps
import Derived.Deep.RegionHeld3
import Derived.BigQuiet
namespace Go.Proofs.Ytnhaolhkanakeaa
open Go.RowKit
attribute [local go_sem ↓] Go.wp_at_zero Go.wp_at_succ
theorem made_ints (n : Nat) : (madeCells #[Value.int .i64 0] (n * 1)).toList = cZ (List.replicate n 0) := by
  apply List.ext_getElem?
  intro j
  by_cases hj : j < n
  · simp [madeCells, cZ, hj, Nat.mod_one]
  · simp [madeCells, cZ, hj]
theorem cZ_set (l : List Int) (p : Nat) (x : Int) : (cZ l).set p (.int .i64 x) = cZ (l.set p x) := by unfold cZ; rw [List.map_set]
theorem below_drewNL (w : World) (n : Nat) : Below w.heap.size w (w.drewN n) := by
  induction n with
  | zero => exact Below.refl _ _
  | succ n ih => exact Below.drew ih
/-- The ends of the first i elements. -/
def eTo (s : Bool) (R : List Int) (l : List (Int × Int)) (i : Nat) : List (Int × Nat) := endsF s ((l.take i).map (rI R))
theorem eTo_succ (s : Bool) (R : List Int) (l : List (Int × Int)) (i : Nat) (h : i < l.length) : eTo s R l (i + 1) = eTo s R l i ++ [(rk R (it l i).1, endF s (eTo s R l i) (rk R (it l i).1))] := by
  unfold eTo
  rw [it_snoc l i h, List.map_append, List.map_cons, List.map_nil, endsF_snoc]
  rfl
theorem eTo_len (s : Bool) (R : List Int) (l : List (Int × Int)) (i : Nat) (h : i ≤ l.length) : (eTo s R l i).length = i := by
  unfold eTo; rw [endsF_len, List.length_map, List.length_take]; omega
theorem eTo_fst (s : Bool) (R : List Int) (l : List (Int × Int)) (i k : Nat) (p : Int × Nat) (hi : i ≤ l.length) (h : (eTo s R l i)[k]? = some p) : p.1 = rk R (it l k).1 := by
  have hk := (List.getElem?_eq_some_iff.1 h).1
  rw [eTo_len s R l i hi] at hk
  have e := endsF_fst s ((l.take i).map (rI R))
  have h2 : ((eTo s R l i).map Prod.fst)[k]? = some p.1 := by rw [List.getElem?_map, h]; rfl
  unfold eTo at h2
  rw [e, List.getElem?_map, List.getElem?_take, if_pos hk, List.getElem?_eq_getElem (by omega)] at h2
  rw [it_lt (by omega)]
  simpa [rI] using h2.symm
theorem eTo_le (s : Bool) (R : List Int) (l : List (Int × Int)) (i : Nat) : ∀ p ∈ eTo s R l i, p.2 ≤ i := fun p hp => by
  have := endsF_le s ((l.take i).map (rI R)) p hp
  rw [List.length_map, List.length_take] at this
  omega
theorem endF_take (s : Bool) (E : List (Int × Nat)) (b : Int) (k : Nat) (p : Int × Nat) (h : E[k]? = some p) : endF s (E.take (k + 1)) b = endStep s b (endF s (E.take k) b) p := by
  obtain ⟨hk, rfl⟩ := List.getElem?_eq_some_iff.1 h
  rw [take_snoc E k hk, endF_snoc]
theorem endF_take_le (s : Bool) (E : List (Int × Nat)) (b : Int) (k n : Nat) (h : ∀ p ∈ E, p.2 ≤ n) : endF s (E.take k) b ≤ n + 1 := endF_le s b _ n fun p hp => h p (List.mem_of_mem_take hp)
theorem bestF_le (E : List (Int × Nat)) (n : Nat) (h : ∀ p ∈ E, p.2 ≤ n) : bestF E ≤ n := by
  rcases (bestF_spec E).2 with e | ⟨p, hp, e⟩
  · omega
  · have := h p hp; omega

set_option linter.unusedSimpArgs false in
set_option maxRecDepth 100000 in
set_option maxHeartbeats 6000000 in
theorem Longest_any (l : List (Int × Int)) (AL : Option Addr) (nL cL : Nat) (R : List Int) (A : Option Addr) (m c : Nat) (s : Bool) (w : World)
    (hL : Rd w w.heap.size 2 AL nL (cI l)) (hr : Rd w w.heap.size 1 A m (cZ R)) (hc : nL ≤ cL) (hnL : nL * 16 ≤ 140737488351232) :
    Calls Try.prog 18 #[.slice AL nL cL, .slice A m c, .bool s] w fun e w' => e = .returned (.int .i64 (bestF (endsF s (l.map (rI R))) : Nat)) ∧ Below w.heap.size w w' := by
  have HL := Lib.hid (rdI_len hL)
  obtain ⟨i0, z0, hi0, hz0, hs0, hb0, _⟩ := eZ.info
  have hz0' : i0.zero = some (.int .i64 0) := by
    have h : (Try.prog.info? 3).map (fun i => i.zero) = some (some (.int .i64 0)) := by kernel_rfl
    rw [hi0] at h
    simpa using h
  have hmk := fun W => run_make_row2 (P := Try.prog) 25 3 i0 _ eZ.ht hi0 hz0' 1 8 hs0 hb0 nL (by omega) (by omega) W
  clear hi0 hz0 hs0 hb0 hz0'
  go_enter Try.func18, Try.ntmps18
  go_wp2
  go_loopw [8, 18] (fun q t wr => ∃ (i : Nat) (o : List Int), i ≤ nL ∧ t = .int .i64 i ∧ q = .int .i64 (bestF (eTo s R l i) : Nat) ∧ Hid (o.length = nL) ∧ wr.ownsRow w.heap.size 3 1 (.slice (some ⟨w.heap.size, 0, none⟩) nL nL) nL (cZ o) ∧ Below w.heap.size w wr ∧
    Hid (∀ (j : Nat) (p : Int × Nat), (eTo s R l i)[j]? = some p → o[j]? = some (p.2 : Int))) (fun _ t _ => nL - (intOf t).toNat)
  case atStart => exact ⟨0, List.replicate nL 0, Nat.zero_le _, rfl, rfl, List.length_replicate, by
    have h := World.ownsRow_lit (e := 3) (size := 1) w (madeCells #[Value.int .i64 0] (nL * 1)) nL (Nat.le_refl _) (by unfold maxLen; omega) (size_madeCells _ _)
    rw [made_ints, Nat.mul_one] at h
    exact h, below_alloc1 w _, fun j p hp => by simp [eTo, endsF] at hp⟩
  case round =>
    obtain ⟨i, o, hi, rfl, rfl, HO, hown, hbel, I⟩ := hrel
    have hbest := bestF_le (eTo s R l i) i (eTo_le s R l i)
    by_cases hlt : i < nL
    · have k0 : (0 : Int) ≤ (i : Int) := Int.natCast_nonneg _
      have k1 : (i : Int) ≤ (cL : Int) := by omega
      have k2 : (i : Int) < (nL : Int) := by omega
      have HE := Lib.hid (eTo_succ s R l i (by rw [HL.out]; exact hlt))
      have HEl := Lib.hid (eTo_len s R l i (by rw [HL.out]; exact hi))
      have HEf : Hid (∀ (k : Nat) (p : Int × Nat), (eTo s R l i)[k]? = some p → p.1 = rk R (it l k).1) := fun k p h => eTo_fst s R l i k p (by rw [HL.out]; exact hi) h
      have HEb := Lib.hid (eTo_le s R l i)
      obtain ⟨E, hE⟩ : ∃ E, E = eTo s R l i := ⟨_, rfl⟩
      rw [← hE] at HE HEl HEf HEb I hbest
      rw [← hE]
      clear hE
      obtain ⟨b, hb⟩ : ∃ b, b = rk R (it l i).1 := ⟨_, rfl⟩
      rw [← hb] at HE
      have HB := Lib.hid hb
      clear hb
      obtain ⟨best, hbe⟩ : ∃ best, best = bestF E := ⟨_, rfl⟩
      rw [← hbe] at hbest
      rw [← hbe]
      have HBest := Lib.hid hbe.symm
      clear hbe
      have x1 : wr.cell? ⟨w.heap.size, i, none⟩ = some (.int .i64 (o[i]'(by rw [HO.out]; exact hlt))) := by
        rw [hown.cellAt _ (by omega)]
        unfold cZ
        rw [List.getElem?_map, List.getElem?_eq_getElem (by rw [HO.out]; exact hlt)]
        rfl
      have f1 := hown.frozenAt i
      obtain ⟨s1, _⟩ := hown.stored i (.int .i64 1)
      rw [cZ_set] at s1
      have b1 := hbel.setCell (p := ⟨w.heap.size, i, none⟩) (Nat.le_refl _) (.int .i64 1)
      clear hown
      go_wp2_with fail
      clear x1 f1
      generalize wr.setCell ⟨w.heap.size, i, none⟩ (.int .i64 1) = W1 at s1 b1 ⊢
      go_loopw [28] (fun t wr => ∃ k e : Nat, k ≤ i ∧ t = .int .i64 k ∧ Hid (e = endF s (E.take k) b) ∧ wr.ownsRow w.heap.size 3 1 (.slice (some ⟨w.heap.size, 0, none⟩) nL nL) nL (cZ (o.set i (e : Int))) ∧ Below w.heap.size w wr) (fun t _ => i - (intOf t).toNat)
      case atStart => exact ⟨0, 1, Nat.zero_le _, rfl, rfl, s1, b1⟩
      case round =>
        clear s1 b1
        obtain ⟨k, e, hk, rfl, he, hown, hbel2⟩ := hrel
        have heb : e ≤ i + 1 := by rw [he.out]; exact endF_take_le s E b k i HEb.out
        by_cases hlk : k < i
        · obtain ⟨bb, off, rfl, _, h1, _⟩ := rdI_at (k := i) (hL.on hbel2) hlt
          obtain ⟨b', off', hA', _, h2, _⟩ := rdI_at (k := k) (hL.on hbel2) (show k < nL by omega)
          simp only [Option.some.injEq, Addr.mk.injEq, and_true] at hA'
          obtain ⟨rfl, rfl⟩ := hA'
          obtain ⟨p, hp⟩ : ∃ p, E[k]? = some p := ⟨E[k]'(by rw [HEl.out]; exact hlk), List.getElem?_eq_getElem _⟩
          have hp1 := HEf.out k p hp
          have HT := Lib.hid (endF_take s E b k p hp)
          have hok := I.out k p hp
          have hpb := HEb.out p (List.mem_of_getElem? hp)
          obtain ⟨a, d⟩ := p
          dsimp only at hp1 hok hpb
          rw [← he.out] at HT
          obtain ⟨xi, hxi⟩ : ∃ x, x = (it l i).1 := ⟨_, rfl⟩
          obtain ⟨xk, hxk⟩ : ∃ x, x = (it l k).1 := ⟨_, rfl⟩
          rw [← hxi] at h1
          rw [← hxk] at h2 hp1
          have HB1 : Hid (rk R xi = b) := by unfold Hid; rw [hxi]; exact HB.out.symm
          have HA1 := Lib.hid hp1.symm
          clear hp hxi hxk
          have j0 : (0 : Int) ≤ (k : Int) := Int.natCast_nonneg _
          have j1 : (k : Int) < (nL : Int) := by omega
          have y1 : wr.cell? ⟨w.heap.size, k, none⟩ = some (.int .i64 (d : Int)) := by
            rw [hown.cellAt _ (by omega)]
            unfold cZ
            rw [List.getElem?_map, List.getElem?_set_ne (by omega), hok]
            rfl
          have y2 : wr.cell? ⟨w.heap.size, i, none⟩ = some (.int .i64 (e : Int)) := by
            rw [hown.cellAt _ (by omega)]
            unfold cZ
            rw [List.getElem?_map, List.getElem?_set_self (by rw [HO.out]; exact hlt)]
            rfl
          have f2 := hown.frozenAt i
          obtain ⟨s2, _⟩ := hown.stored i (.int .i64 ((d : Int) + 1))
          rw [cZ_set, List.set_set] at s2
          have rq := Lib.hid (hr.on hbel2)
          clear hp1 hok
          go_wp2_with fail
          go_region_held3 (fun w' => w'.cell? ⟨bb, off + i * 2, none⟩ = some (.int .i64 xi) ∧ w'.cell? ⟨bb, off + k * 2, none⟩ = some (.int .i64 xk) ∧ Below wr.heap.size wr w')
            (first | (exact ⟨h1, h2, (Below.refl _ _).drew⟩) | (go_split_ands; exact ⟨by assumption, by assumption, by assumption⟩))
            (first | (go_at_call 34; go_split_ands; refine (Rank_any R A m c _ _ (rq.out.on (by assumption))).mono ?_; (first | rw [HA1.out] | rw [HB1.out]); rintro e w' ⟨rfl, rfl⟩))
          by_cases g1 : a < b
          · have g1' : decide (a < b) = true := by simpa using g1
            cases s
            · skip
              by_cases g2 : e ≤ d
              · have HC : Hid (ltS false a b = true) := by unfold Hid; rw [ltS_false]; omega
                go_wp2_with fail
                go_quiet (fail)
                go_wp2
                go_roundw
                case rel => exact ⟨k + 1, d + 1, by omega, by go_num, by unfold Hid; rw [HT.out]; unfold endStep; rw [if_pos ⟨HC.out, by omega⟩], s2, (below_step hbel2 (below_drewNL wr _)).setCell (p := ⟨w.heap.size, i, none⟩) (Nat.le_refl _) _⟩
                case measure => simp [intOf]; omega
              · have g2' : decide (e ≤ d) = false := by simpa using g2
                have HC : Hid (¬ (ltS false a b = true ∧ e ≤ d)) := fun h => g2 h.2
                go_wp2_with fail
                go_quiet (fail)
                go_wp2
                go_roundw
                case rel => exact ⟨k + 1, e, by omega, by go_num, by unfold Hid; rw [HT.out]; unfold endStep; rw [if_neg HC.out], hown, below_step hbel2 (below_drewNL wr _)⟩
                case measure => simp [intOf]; omega
            · skip
              by_cases g2 : e ≤ d
              · have HC : Hid (ltS true a b = true) := by unfold Hid; rw [ltS_true]; exact g1
                go_wp2_with fail
                go_quiet (fail)
                go_wp2
                go_roundw
                case rel => exact ⟨k + 1, d + 1, by omega, by go_num, by unfold Hid; rw [HT.out]; unfold endStep; rw [if_pos ⟨HC.out, by omega⟩], s2, (below_step hbel2 (below_drewNL wr _)).setCell (p := ⟨w.heap.size, i, none⟩) (Nat.le_refl _) _⟩
                case measure => simp [intOf]; omega
              · have g2' : decide (e ≤ d) = false := by simpa using g2
                have HC : Hid (¬ (ltS true a b = true ∧ e ≤ d)) := fun h => g2 h.2
                go_wp2_with fail
                go_quiet (fail)
                go_wp2
                go_roundw
                case rel => exact ⟨k + 1, e, by omega, by go_num, by unfold Hid; rw [HT.out]; unfold endStep; rw [if_neg HC.out], hown, below_step hbel2 (below_drewNL wr _)⟩
                case measure => simp [intOf]; omega
          · have g1' : decide (a < b) = false := by simpa using g1
            cases s
            · by_cases g3 : a = b
              · subst g3
                have g4 : (a == a) = true := by simp
                by_cases g2 : e ≤ d
                · have HC : Hid (ltS false a a = true) := by unfold Hid; rw [ltS_false]; omega
                  go_wp2_with fail
                  go_quiet (fail)
                  go_wp2
                  go_roundw
                  case rel => exact ⟨k + 1, d + 1, by omega, by go_num, by unfold Hid; rw [HT.out]; unfold endStep; rw [if_pos ⟨HC.out, by omega⟩], s2, (below_step hbel2 (below_drewNL wr _)).setCell (p := ⟨w.heap.size, i, none⟩) (Nat.le_refl _) _⟩
                  case measure => simp [intOf]; omega
                · have g2' : decide (e ≤ d) = false := by simpa using g2
                  have HC : Hid (¬ (ltS false a a = true ∧ e ≤ d)) := fun h => g2 h.2
                  go_wp2_with fail
                  go_quiet (fail)
                  go_wp2
                  go_roundw
                  case rel => exact ⟨k + 1, e, by omega, by go_num, by unfold Hid; rw [HT.out]; unfold endStep; rw [if_neg HC.out], hown, below_step hbel2 (below_drewNL wr _)⟩
                  case measure => simp [intOf]; omega
              · have g4 : (a == b) = false := by rw [beq_eq_false_iff_ne]; exact g3
                have HC : Hid (¬ (ltS false a b = true ∧ e ≤ d)) := fun h => by rw [ltS_false] at h; omega
                clear g3
                go_wp2_with fail
                go_quiet (fail)
                go_wp2
                go_roundw
                case rel => exact ⟨k + 1, e, by omega, by go_num, by unfold Hid; rw [HT.out]; unfold endStep; rw [if_neg HC.out], hown, below_step hbel2 (below_drewNL wr _)⟩
                case measure => simp [intOf]; omega
            · have HC : Hid (¬ (ltS true a b = true ∧ e ≤ d)) := fun h => by rw [ltS_true] at h; omega
              go_wp2_with fail
              go_quiet (fail)
              go_wp2
              go_roundw
              case rel => exact ⟨k + 1, e, by omega, by go_num, by unfold Hid; rw [HT.out]; unfold endStep; rw [if_neg HC.out], hown, below_step hbel2 (below_drewNL wr _)⟩
              case measure => simp [intOf]; omega
        · obtain rfl : k = i := by omega
          have HE2 : Hid (e = endF s E b) := by unfold Hid; rw [he.out, List.take_of_length_le (by rw [HEl.out]; exact Nat.le_refl _)]
          rw [← HE2.out] at HE
          have y2 : wr.cell? ⟨w.heap.size, k, none⟩ = some (.int .i64 (e : Int)) := by
            rw [hown.cellAt _ (by omega)]
            unfold cZ
            rw [List.getElem?_map, List.getElem?_set_self (by rw [HO.out]; exact hlt)]
            rfl
          have HO2 : Hid ((o.set k (e : Int)).length = nL) := by unfold Hid; rw [List.length_set]; exact HO.out
          have I2 : Hid (∀ (j : Nat) (p : Int × Nat), (eTo s R l (k + 1))[j]? = some p → (o.set k (e : Int))[j]? = some (p.2 : Int)) := fun j p hp => by
            rw [HE.out] at hp
            rcases Nat.lt_or_ge j k with h | h
            · rw [List.getElem?_append_left (by rw [HEl.out]; exact h)] at hp
              rw [List.getElem?_set_ne (by omega)]
              exact I.out j p hp
            · rw [List.getElem?_append_right (by rw [HEl.out]; exact h), HEl.out] at hp
              have hj : j - k = 0 := by
                rcases Nat.eq_zero_or_pos (j - k) with h0 | h0
                · exact h0
                · rw [List.getElem?_eq_none (by simp; omega)] at hp; cases hp
              have hjk : j = k := by omega
              subst hjk
              rw [hj] at hp
              simp at hp
              subst hp
              rw [List.getElem?_set_self (by rw [HO.out]; exact hlt)]
          have HBs : Hid (bestF (eTo s R l (k + 1)) = if best < e then e else best) := by unfold Hid; rw [HE.out, bestF_snoc, HBest.out]
          by_cases g1 : best < e
          · have HB2 : Hid (bestF (eTo s R l (k + 1)) = e) := by unfold Hid; rw [HBs.out, if_pos g1]
            go_wp2
            go_roundw
            case rel => exact ⟨k + 1, o.set k (e : Int), by omega, by go_num, by rw [HB2.out], HO2, hown, hbel2, I2⟩
            case measure => simp [intOf]; omega
          · have HB2 : Hid (bestF (eTo s R l (k + 1)) = best) := by unfold Hid; rw [HBs.out, if_neg g1]
            have g1' : decide (best < e) = false := by simpa using g1
            go_wp2
            go_roundw
            case rel => exact ⟨k + 1, o.set k (e : Int), by omega, by go_num, by rw [HB2.out], HO2, hown, hbel2, I2⟩
            case measure => simp [intOf]; omega
    · obtain rfl : i = nL := by omega
      have HF : Hid (eTo s R l i = endsF s (l.map (rI R))) := by unfold Hid eTo; rw [List.take_of_length_le (by rw [HL.out]; exact Nat.le_refl _)]
      rw [HF.out]
      clear hown
      go_wp2
      go_ret
      exact ⟨rfl, hbel⟩
end Go.Proofs.Ytnhaolhkanakeaa

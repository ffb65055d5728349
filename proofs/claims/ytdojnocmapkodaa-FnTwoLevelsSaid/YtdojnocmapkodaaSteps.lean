/- The contracts of spec.Steps, spec.Stable and laws.stable: the items sorted stably, as a new list. -/
import Derived.Test.YtdojnocmapkodaaLex
import Derived.Test.YtdojnocmapkodaaTheirs
import Derived.Laws.MakeOwn
import Derived.Laws.Entries
namespace Go.Proofs.Ytdojnocmapkodaa
open Go.RowKit
attribute [local go_sem ↓] Go.wp_at_zero Go.wp_at_succ

theorem run_make_row2 {P : Program} (t e : TypeId) (i : TypeInfo) (z : Value) (ht : P.underlying t = some (.slice e)) (hi : P.info? e = some i) (hz : i.zero = some z) (size bytes : Nat) (hs : i.size = size) (hb : i.bytes = bytes)
    (n : Nat) (hbytes : bytes * n ≤ 281474976710656) (h63 : n ≤ 9223372036854775807) (w : World) :
    (Instr.makeSlice t (.int .i64 (n : Int)) (.int .i64 (n : Int))).run P w = .ok (.slice (some ⟨w.heap.size, 0, none⟩) n n) (w.alloc (.cells (madeCells z.cells (n * size)) e)) := by
  subst hs hb
  have hbb : (i.bytes : Int) * (n : Int) ≤ 281474976710656 := by
    have h : ((i.bytes * n : Nat) : Int) ≤ 281474976710656 := by omega
    rwa [Int.natCast_mul] at h
  have hr := run_make (P := P) w t e i z ht hi hz .i64 .i64 n n (by omega) (by omega) hbb (by omega)
  simp only [Int.toNat_natCast] at hr
  exact hr
/-- New cells of items are items of zeros. -/
theorem made_items (n : Nat) : (madeCells #[Value.int .i64 0, .int .i64 0] (n * 2)).toList = cI (List.replicate n (0, 0)) := by
  apply List.ext_getElem?
  intro j
  by_cases hj : j < n * 2
  · have hl : j < (cI (List.replicate n ((0 : Int), (0 : Int)))).length := by rw [cI_len]; simpa using hj
    have h0 : (cI (List.replicate n ((0 : Int), (0 : Int))))[j]? = some (.int .i64 0) := by
      have hk : j / 2 < (List.replicate n ((0 : Int), (0 : Int))).length := by simp; omega
      have := cI_at (List.replicate n ((0 : Int), (0 : Int))) (j / 2) hk
      rcases Nat.mod_two_eq_zero_or_one j with h | h
      · rw [show j = 2 * (j / 2) by omega, this.1]; simp
      · rw [show j = 2 * (j / 2) + 1 by omega, this.2]; simp
    rw [h0]
    have hm : j % 2 = 0 ∨ j % 2 = 1 := by omega
    rcases hm with h | h <;> simp [madeCells, hj, h]
  · have h1 : (cI (List.replicate n ((0 : Int), (0 : Int))))[j]? = none := List.getElem?_eq_none (by rw [cI_len]; simp; omega)
    rw [h1]
    simp [madeCells, hj]
theorem below_alloc1 (w : World) (o : Obj) : Below w.heap.size w (w.alloc o) := (Below.refl _ _).alloc (Nat.le_refl _) _
theorem own_on {w w' : World} {base e size : Nat} {v : Value} {n : Nat} {xs : List Value} (h : w.ownsRow base e size v n xs) (hb : Below w.heap.size w w') : w'.ownsRow base e size v n xs :=
  h.kept (row := none) ⟨hb.os, hb.tape, hb.output, hb.size, fun k hk _ => hb.block k hk⟩ (by cases hv : v.ownBlock <;> simp)

set_option maxHeartbeats 4000000 in
theorem Steps_any (l : List (Int × Int)) (AL : Option Addr) (nL cL : Nat) (ts : List Tab) (AS : Option Addr) (nS cS : Nat) (w : World)
    (hL : Rd w w.heap.size 2 AL nL (cI l)) (hS : RdS w w.heap.size AS nS ts) (hnL : nL * 16 ≤ 140737488351232) (hnS : nS ≤ 9223372036854775807) :
    Calls Try.prog 20 #[.slice AL nL cL, .slice AS nS cS] w (OwnList 64 2 (cI (steps (ts.map Tab.r) l)) nL w) := by
  have HL := Lib.hid (rdI_len hL)
  obtain ⟨Rs, hRs⟩ : ∃ Rs, Rs = ts.map Tab.r := ⟨_, rfl⟩
  rw [← hRs]
  have HRs := Lib.hid hRs
  clear hRs
  obtain ⟨i0, z0, hi0, hz0, hs0, hb0, _⟩ := eS.info
  have hz0' : i0.zero = some (.agg #[.int .i64 0, .int .i64 0]) := by
    have h : (Try.prog.info? 64).map (fun i => i.zero) = some (some (.agg #[.int .i64 0, .int .i64 0])) := by kernel_rfl
    rw [hi0] at h
    simpa using h
  have hmk := fun W => run_make_row2 (P := Try.prog) 38 64 i0 _ eS.ht hi0 hz0' 2 16 hs0 hb0 nL (by omega) (by omega) W
  clear hi0 hz0 hs0 hb0 hz0'
  go_enter Try.func20, Try.ntmps20
  go_wp2
  go_loopw [14] (fun s wr => ∃ (i : Nat) (o : List (Int × Int)), i ≤ nL ∧ s = .int .i64 i ∧ Hid (o.length = nL) ∧ wr.ownsRow w.heap.size 64 2 (.slice (some ⟨w.heap.size, 0, none⟩) nL nL) nL (cI o) ∧ Below w.heap.size w wr ∧
    Hid (∀ j, j < i → o[pos Rs l j nL]? = some (it l j))) (fun s _ => nL - (intOf s).toNat)
  case atStart => exact ⟨0, List.replicate nL (0, 0), Nat.zero_le _, rfl, List.length_replicate, by
    rw [← made_items]
    exact World.ownsRow_lit w _ nL (Nat.le_refl _) (by unfold maxLen; omega) (size_madeCells _ _), below_alloc1 w _, fun j hj => absurd hj (by omega)⟩
  case round =>
    obtain ⟨i, o, hi, rfl, HO, hown, hbel, I⟩ := hrel
    by_cases hlt : i < nL
    · go_wp2_with fail
      obtain ⟨wo, rfl⟩ : ∃ wo : World, wo = wr := ⟨_, rfl⟩
      go_loopw [7, 19] (fun a s wr => ∃ k : Nat, k ≤ nL ∧ s = .int .i64 k ∧ a = .int .i64 (pos Rs l i k) ∧ Below wo.heap.size wo wr) (fun _ s _ => nL - (intOf s).toNat)
      case atStart => exact ⟨0, Nat.zero_le _, rfl, by simp [pos], Below.refl _ _⟩
      case round =>
        obtain ⟨k, hk, rfl, rfl, hbel2⟩ := hrel
        have hpk := pos_le Rs l i k
        by_cases hlk : k < nL
        · have belw := below_step hbel hbel2
          have HP : Hid (pos Rs l i (k + 1) = pos Rs l i k + if lexlt Rs.reverse (it l k).1 (it l i).1 k i = true then 1 else 0) := pos_succ Rs l i k
          go_wp2_with fail
          refine (sbefore_any l AL nL cL k i ts AS nS cS _ (hL.on belw) (hS.on belw) hlk hlt (by omega) hnS).mono ?_
          rintro e w1 ⟨rfl, hb1⟩
          rw [← HRs.out]
          have hbel3 := below_step hbel2 hb1
          cases hv : lexlt Rs.reverse (it l k).1 (it l i).1 k i
          · rw [hv] at HP
            have HP2 : Hid (pos Rs l i (k + 1) = pos Rs l i k) := by unfold Hid; rw [HP.out]; simp
            clear HP hv
            go_wp2
            go_roundw
            case rel => exact ⟨k + 1, by omega, by go_num, by rw [HP2.out], hbel3⟩
            case measure => simp [intOf]; omega
          · rw [hv] at HP
            have HP2 : Hid (pos Rs l i (k + 1) = pos Rs l i k + 1) := by unfold Hid; rw [HP.out]; simp
            clear HP hv
            go_wp2
            go_roundw
            case rel => exact ⟨k + 1, by omega, by go_num, by rw [HP2.out]; go_num, hbel3⟩
            case measure => simp [intOf]; omega
        · obtain rfl : k = nL := by omega
          have belw := below_step hbel hbel2
          have hplt := pos_lt Rs l k i hlt
          obtain ⟨b, off, rfl, hb, hc1, hc2⟩ := rdI_at (k := i) (hL.on belw) hlt
          have own2 := own_on hown hbel2
          generalize hpp : pos Rs l i k = p at hplt hpk
          have HPP := Lib.hid hpp
          clear hpp
          have q0 : (0 : Int) ≤ (p : Int) := Int.natCast_nonneg _
          have q1 : (p : Int) < (k : Int) := by omega
          obtain ⟨s1, g1⟩ := own2.stored (p * 2) (.int .i64 (it l i).1)
          obtain ⟨s2, g2⟩ := s1.stored (p * 2 + 1) (.int .i64 (it l i).2)
          rw [cI_set] at s2
          have hpo : p < o.length := by rw [HO.out]; exact hplt
          have x1 : wr.cell? ⟨w.heap.size, p * 2, none⟩ = some (.int .i64 (it o p).1) := by
            rw [own2.cellAt _ (by omega), Nat.mul_comm, (cI_at o p hpo).1, it_lt hpo]
          have x2 : wr.cell? ⟨w.heap.size, p * 2 + 1, none⟩ = some (.int .i64 (it o p).2) := by
            rw [own2.cellAt _ (by omega), Nat.mul_comm, (cI_at o p hpo).2, it_lt hpo]
          have f1 := own2.frozenAt (p * 2)
          have f2 := own2.frozenAt (p * 2 + 1)
          have HPO := Lib.hid hpo
          have I2 : Hid (∀ j, j < i + 1 → (o.set p (it l i))[pos Rs l j k]? = some (it l j)) := fun j hj => by
            rcases Nat.lt_succ_iff_lt_or_eq.1 hj with h | rfl
            · rw [List.getElem?_set_ne (fun e => by
                have := pos_inj Rs l k j i (by omega) hlt (by rw [HPP.out, e])
                omega)]
              exact I.out j h
            · rw [HPP.out, List.getElem?_set_self hpo]
          have HO2 : Hid ((o.set p (it l i)).length = k) := by unfold Hid; rw [List.length_set]; exact HO.out
          have b3 : Below w.heap.size w ((wr.setCell ⟨w.heap.size, p * 2, none⟩ (.int .i64 (it l i).1)).setCell ⟨w.heap.size, p * 2 + 1, none⟩ (.int .i64 (it l i).2)) :=
            (belw.setCell (p := ⟨w.heap.size, p * 2, none⟩) (Nat.le_refl _) _).setCell (p := ⟨w.heap.size, p * 2 + 1, none⟩) (Nat.le_refl _) _
          clear s1 g1 g2 own2 hown hpo
          go_wp2
          go_roundw
          case rel => exact ⟨i + 1, o.set p (it l i), by omega, by go_num, HO2, s2, b3, I2⟩
          case measure => simp [intOf]; omega
    · obtain rfl : i = nL := by omega
      have e : o = steps Rs l := steps_of Rs l o (by rw [HO.out, HL.out]) (by rw [HL.out]; exact I.out)
      rw [e] at hown
      clear e
      go_wp2
      go_ret
      exact ⟨_, _, rfl, hown, hbel⟩

set_option maxHeartbeats 1000000 in
theorem SStable_any (l : List (Int × Int)) (AL : Option Addr) (nL cL : Nat) (R : List Int) (A : Option Addr) (m c : Nat) (w : World)
    (hL : Rd w w.heap.size 2 AL nL (cI l)) (hr : Rd w w.heap.size 1 A m (cZ R)) (hnL : nL * 16 ≤ 140737488351232) :
    Calls Try.prog 46 #[.slice AL nL cL, .slice A m c] w (OwnList 64 2 (cI (stab (fun x => rk R x.1) l)) nL w) := by
  have hb0 := below_alloc1 w (.cells #[.slice A m c] 23)
  have hS : RdS (w.alloc (.cells #[.slice A m c] 23)) (w.alloc (.cells #[.slice A m c] 23)).heap.size (some ⟨w.heap.size, 0, none⟩) 1 [⟨A, m, c, R⟩] := by
    refine ⟨⟨rfl, fun _ => ⟨w.heap.size, 0, rfl, by simp, fun j u hu => ?_⟩⟩, fun t ht => ?_⟩
    · match j, hu with
      | 0, hu => simp [cT] at hu; subst hu; simp
    · simp at ht; subst ht; exact hr.on hb0
  have HS := Lib.hid (Steps_any l AL nL cL [⟨A, m, c, R⟩] (some ⟨w.heap.size, 0, none⟩) 1 1 _ (hL.on hb0) hS hnL (by omega))
  clear hS hL hr
  go_enter Try.func46, Try.ntmps46
  go_wp2_with fail
  refine HS.out.mono ?_
  rintro e w1 ⟨A1, c1, rfl, o1, b1⟩
  have o2 := own_base o1 hb0.size
  clear o1
  go_wp2
  go_ret
  exact ⟨A1, c1, rfl, o2, below_step hb0 b1⟩

set_option maxHeartbeats 2000000 in
/-- laws.stable: the reference's stable list. -/
theorem lstable_any (l : List (Int × Int)) (AL : Option Addr) (nL cL : Nat) (R : List Int) (A : Option Addr) (m c : Nat) (w : World)
    (hL : Rd w w.heap.size 2 AL nL (cI l)) (hr : Rd w w.heap.size 1 A m (cZ R)) (hnL : nL * 16 ≤ 140737488351232) :
    Calls Try.prog 33 #[.slice AL nL cL, .agg #[.slice A m c]] w (OwnList 27 2 (cI (stab (fun x => rk R x.1) l)) nL w) := by
  have hb0 := below_alloc1 w (.cells #[.slice A m c] 25)
  have c0 : (w.alloc (.cells #[.slice A m c] 25)).cell? ⟨w.heap.size, 0, none⟩ = some (.slice A m c) := by simp
  have hL0 := hL.on hb0
  have hr0 := hr.on hb0
  clear hL hr
  go_enter Try.func33, Try.ntmps33
  go_wp2
  generalize (w.alloc (.cells #[.slice A m c] 25)) = W at hb0 c0 hL0 hr0 ⊢
  have HL0 := Lib.hid hL0
  have HR0 := Lib.hid hr0
  clear hL0 hr0
  go_region_held3 (fun w' => w'.cell? ⟨w.heap.size, 0, none⟩ = some (.slice A m c) ∧ Below W.heap.size W w')
    (first | (exact ⟨c0, (Below.refl _ _).drew⟩) | (go_split_ands; exact ⟨cell_on hbc (by assumption), below_step (by assumption) hbc⟩))
    (first
      | (go_at_call 21; go_split_ands; refine (theirs_any l AL nL cL _ (HL0.out.on (by assumption)) hnL).mono ?_; rintro e w1 ⟨A1, c1, rfl, o1, hbc⟩; have rd1 := Lib.hid (Rd.of_own o1); clear o1)
      | (go_at_call 46; go_split_ands; refine (SStable_any l A1 nL c1 R A m c _ rd1.out (HR0.out.on (by assumption)) hnL).mono ?_; rintro e w2 ⟨A2, c2, rfl, o2, hbc⟩; have rd2 := Lib.hid (Rd.of_own o2); clear o2)
      | (go_at_call 19; go_split_ands; refine (items_any _ A2 nL c2 _ rd2.out hnL).mono ?_; rintro e w3 ⟨A3, c3, rfl, o3, hbc⟩; have o4 := own_base (base' := w.heap.size) o3 (Nat.le_trans hb0.size (Below.size (w := W) (by assumption))); clear o3))
  all_goals
    have hfin : Below W.heap.size W w3 := by go_split_ands; assumption
    go_wp2
    go_ret
    exact ⟨A3, c3, rfl, o4, below_step hb0 hfin⟩
end Go.Proofs.Ytdojnocmapkodaa

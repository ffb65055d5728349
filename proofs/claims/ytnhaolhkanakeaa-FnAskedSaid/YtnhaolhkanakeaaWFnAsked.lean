/- FnAsked returns true: for every list, order and script of questions. -/
import Derived.Test.YtnhaolhkanakeaaAsked
import Derived.Test.YtnhaolhkanakeaaCounts
import Derived.Test.YtnhaolhkanakeaaEquals
import Derived.Test.YtnhaolhkanakeaaSteps
import Derived.Test.YtnhaolhkanakeaaSameInts
import Derived.Test.YtnhaolhkanakeaaOpenMore
import Derived.Deep.RegionHeld3
import Derived.IntWalk
namespace Go.Proofs.Ytnhaolhkanakeaa
open Go.RowKit
attribute [local go_sem ↓] Go.wp_at_zero Go.wp_at_succ

set_option linter.unusedSimpArgs false in
set_option maxHeartbeats 4000000 in
theorem wFnAsked (A0 : Option Addr) (n0 c0 : Nat) (l0 : List (Int × Int)) (A1 : Option Addr) (n1 c1 : Nat) (R : List Int) (A2 : Option Addr) (n2 c2 : Nat) (qs : List (Bool × (Int × Int))) (w : World)
    (r0 : Rd w w.heap.size 2 A0 n0 (cI l0)) (_z0 : ∀ y ∈ l0, InI y.1 ∧ InI y.2) (le0 : n0 ≤ c0) (b0 : c0 * 16 ≤ 140737488351232)
    (r1 : Rd w w.heap.size 1 A1 n1 (cZ R)) (_z1 : ∀ y ∈ R, InI y) (_le1 : n1 ≤ c1) (_b1 : c1 * 8 ≤ 140737488351232)
    (r2 : Rd w w.heap.size 3 A2 n2 (cQ qs)) (_z2 : ∀ y ∈ qs, InI y.2.1 ∧ InI y.2.2) (le2 : n2 ≤ c2) (b2 : c2 * 24 ≤ 140737488351232) :
    Calls Try.prog 5 #[.slice A0 n0 c0, .agg #[.slice A1 n1 c1], .slice A2 n2 c2] w fun e w' => e = .returned (.bool true) ∧ Below w.heap.size w w' := by
  clear _z0 _z1 _z2 _le1 _b1
  have hn : n0 * 16 ≤ 140737488351232 := by omega
  have hn2 : n2 * 24 ≤ 140737488351232 := by omega
  have HL := Lib.hid (rdI_len r0)
  have HLQ := Lib.hid (rdQ_len r2)
  have hb0 := below_alloc1 w (.cells #[.slice A1 n1 c1] 27)
  have q0 : (w.alloc (.cells #[.slice A1 n1 c1] 27)).cell? ⟨w.heap.size, 0, none⟩ = some (.slice A1 n1 c1) := by simp [go_sem]
  go_enter Try.func5, Try.ntmps5
  go_wp2_with fail
  refine (lstable_any l0 A0 n0 c0 R A1 n1 c1 _ (r0.on hb0) (r1.on hb0) hn).mono ?_
  rintro e W ⟨A, c, rfl, o1, b1⟩
  have rs := Lib.hid (Rd.of_own o1)
  have rr := Lib.hid ((r1.on hb0).on b1)
  have rq := Lib.hid ((r2.on hb0).on b1)
  have d2 : W.cell? ⟨w.heap.size, 0, none⟩ = some (.slice A1 n1 c1) := cell_on b1 q0
  have bw := below_step hb0 b1
  clear o1 r0 r1 r2 hb0 b1 q0 le0 b0 le2 b2
  have hsl : Hid ((stab (rI R) l0).length = n0) := by unfold Hid; rw [stab_len]; exact HL.out
  have hsr := Lib.hid (stab_srt (rI R) l0)
  rw [show stab (fun x => rk R x.1) l0 = stab (rI R) l0 from rfl] at rs
  obtain ⟨m, hm⟩ : ∃ m, m = stab (rI R) l0 := ⟨_, rfl⟩
  rw [← hm] at rs hsl hsr
  clear hm
  have HLE : Hid (∀ k, less R m k + eqs R m k ≤ n0) := fun k => by have := less_eqs_le R m k; rw [hsl.out] at this; exact this
  go_wp2_with fail
  go_loopw [7, 16] (fun v s wr => ∃ (k : Nat) (B : Option Addr) (d : Nat), k ≤ n2 ∧ s = .int .i64 k ∧ v = .slice B k d ∧ wr.ownsRow W.heap.size 3 1 (.slice B k d) k (cZ (answers R m (qs.take k))) ∧ Below W.heap.size W wr) (fun _ s _ => n2 - (intOf s).toNat)
  case atStart => exact ⟨0, none, 0, Nat.zero_le _, rfl, rfl, own_nil _ _ _ _, Below.refl _ _⟩
  case round =>
    obtain ⟨k, B, d, hk, rfl, rfl, hown, hbel⟩ := hrel
    by_cases hlt : k < n2
    · obtain ⟨b, off, rfl, _, hc0, hc1, hc2⟩ := rdQ_at (k := k) (rq.out.on hbel) hlt
      have T := Lib.hid (answers_snoc R m qs k (by rw [HLQ.out]; exact hlt))
      obtain ⟨⟨o, x⟩, hq⟩ : ∃ q, q = itQ qs k := ⟨_, rfl⟩
      rw [← hq] at hc0 hc1 hc2 T
      clear hq
      dsimp only at hc0 hc1 hc2
      have hle := HLE.out x.1
      obtain ⟨f, hf⟩ : ∃ f, f = less R m x.1 := ⟨_, rfl⟩
      obtain ⟨q, hq⟩ : ∃ q, q = eqs R m x.1 := ⟨_, rfl⟩
      rw [← hf, ← hq] at hle
      have HF := Lib.hid hf.symm
      have HQ := Lib.hid hq.symm
      have HA : Hid (ansN R m (o, x) = if o = true then f + q else f) := by unfold Hid ansN; rw [hf, hq]
      clear hf hq
      have hbx := hbel.alloc hbel.size (.cells #[.bool o, .int .i64 x.1, .int .i64 x.2] 39)
      have t2 := cell_on hbx d2
      have y0 : (wr.alloc (.cells #[.bool o, .int .i64 x.1, .int .i64 x.2] 39)).cell? ⟨wr.heap.size, 0, none⟩ = some (.bool o) := by simp [go_sem]
      have y1 : (wr.alloc (.cells #[.bool o, .int .i64 x.1, .int .i64 x.2] 39)).cell? ⟨wr.heap.size, 1, none⟩ = some (.int .i64 x.1) := by simp [go_sem]
      have HO := Lib.hid (hown.alloc (.cells #[.bool o, .int .i64 x.1, .int .i64 x.2] 39))
      have rq2 := Lib.hid (rr.out.on hbx)
      have rs2 := Lib.hid (rs.out.on hbx)
      clear hown
      go_wp2_with fail
      generalize wr.alloc (.cells #[.bool o, .int .i64 x.1, .int .i64 x.2] 39) = W2 at hbx t2 y0 y1 HO rq2 rs2 ⊢
      go_region_held3 (fun w' => w'.cell? ⟨w.heap.size, 0, none⟩ = some (.slice A1 n1 c1) ∧ w'.cell? ⟨wr.heap.size, 0, none⟩ = some (.bool o) ∧ w'.cell? ⟨wr.heap.size, 1, none⟩ = some (.int .i64 x.1) ∧ Below W2.heap.size W2 w')
        (first | (exact ⟨t2, y0, y1, (Below.refl _ _).drew⟩) | (go_split_ands; exact ⟨nx_cell hbc (by assumption), nx_cell hbc (by assumption), nx_cell hbc (by assumption), nx_step (by assumption) hbc⟩))
        (first
          | (go_at_call 15; go_split_ands; refine (theirs_any m A n0 c _ (rs2.out.on (by assumption)) hn).mono ?_; rintro e w3 ⟨A3, c3, rfl, o3, hbc'⟩; have rt := Lib.hid (Rd.of_own o3); clear o3; have hbc := nx hbc'; clear hbc')
          | (go_at_call 14; go_split_ands; refine (Less_any m A3 n0 c3 x.1 R A1 n1 c1 _ (by refine Rd.on (rt.out) ?_; repeat (first | exact Below.refl _ _ | refine nx_step ?_ (by with_reducible assumption))) (rq2.out.on (by assumption)) hn).mono ?_; rw [HF.out]; rintro e w4 ⟨rfl, hbc'⟩; have hbc := nx hbc'; clear hbc'))
      have b4 : Below W2.heap.size W2 w4 := by go_split_ands; assumption
      have z2 : w4.cell? ⟨w.heap.size, 0, none⟩ = some (.slice A1 n1 c1) := by go_split_ands; assumption
      have z0 : w4.cell? ⟨wr.heap.size, 0, none⟩ = some (.bool o) := by go_split_ands; assumption
      have z1 : w4.cell? ⟨wr.heap.size, 1, none⟩ = some (.int .i64 x.1) := by go_split_ands; assumption
      have rq4 := Lib.hid (rq2.out.on b4)
      have rs4 := Lib.hid (rs2.out.on b4)
      have HO4 := Lib.hid (own_on HO.out b4)
      have bb4 := below_step hbx b4
      clear t2 y0 y1 HO rq2 rs2 hbx
      rename_i hold
      clear hold
      cases o
      · have HA' : Hid (ansN R m (false, x) = f) := by unfold Hid; rw [HA.out]; rfl
        rw [HA'.out] at T
        have o4 := HO4.out
        go_wp2_with (at_builtin; refine wpList_app eZ rfl _ _ rfl W.heap.size w4 B k d _ rfl o4 #[.int .i64 (f : Int)] rfl rfl (one_int _ _) (by omega) (by unfold maxLen; omega) bb4.size ?_; rintro g cap w5 ⟨o5, bl5, _, _, _⟩)
        rw [cZ_snocA, ← T.out] at o5
        have b5 := bb4.trans bl5
        clear o4
        go_roundw
        case rel => exact ⟨k + 1, some ⟨g, 0, none⟩, cap, by omega, by go_num, rfl, o5, b5⟩
        case measure => simp [intOf]; omega
      · obtain ⟨p, hp⟩ : ∃ p, p = f + q := ⟨_, rfl⟩
        have HA' : Hid (ansN R m (true, x) = p) := by unfold Hid; rw [HA.out, hp]; rfl
        rw [HA'.out] at T
        have hw : IntKind.i64.wrap ((f : Int) + (q : Int)) = (p : Int) := by rw [IntWalk.i64_in _ (by omega)]; omega
        clear hp
        go_wp2_with fail
        go_region_held3 (fun w' => w'.cell? ⟨w.heap.size, 0, none⟩ = some (.slice A1 n1 c1) ∧ w'.cell? ⟨wr.heap.size, 1, none⟩ = some (.int .i64 x.1) ∧ Below w4.heap.size w4 w')
          (first | (exact ⟨z2, z1, (Below.refl _ _).drew⟩) | (go_split_ands; exact ⟨nx_cell hbc (by assumption), nx_cell hbc (by assumption), nx_step (by assumption) hbc⟩))
          (first
            | (go_at_call 15; go_split_ands; refine (theirs_any m A n0 c _ (rs4.out.on (by assumption)) hn).mono ?_; rintro e w6 ⟨A6, c6, rfl, o6, hbc'⟩; have rt6 := Lib.hid (Rd.of_own o6); clear o6; have hbc := nx hbc'; clear hbc')
            | (go_at_call 16; go_split_ands; refine (Equal_any m A6 n0 c6 x.1 R A1 n1 c1 _ (by refine Rd.on (rt6.out) ?_; repeat (first | exact Below.refl _ _ | refine nx_step ?_ (by with_reducible assumption))) (rq4.out.on (by assumption)) hn).mono ?_; rw [HQ.out]; rintro e w7 ⟨rfl, hbc'⟩; have hbc := nx hbc'; clear hbc'))
        clear hw
        have b7 : Below w4.heap.size w4 w7 := by go_split_ands; assumption
        have bb7 := below_step bb4 b7
        have o7 := own_on HO4.out b7
        go_wp2_with (at_builtin; refine wpList_app eZ rfl _ _ rfl W.heap.size w7 B k d _ rfl o7 #[.int .i64 (p : Int)] rfl rfl (one_int _ _) (by omega) (by unfold maxLen; omega) bb7.size ?_; rintro g cap w8 ⟨o8, bl8, _, _, _⟩)
        rw [cZ_snocA, ← T.out] at o8
        have b8 := bb7.trans bl8
        clear o7
        go_roundw
        case rel => exact ⟨k + 1, some ⟨g, 0, none⟩, cap, by omega, by go_num, rfl, o8, b8⟩
        case measure => simp [intOf]; omega
    · obtain rfl : k = n2 := by omega
      rw [List.take_of_length_le (by rw [HLQ.out]; exact Nat.le_refl _)] at hown
      have ro := Lib.hid (Rd.of_own hown)
      have e2 := cell_on hbel d2
      clear hown
      go_wp2_with (first
        | (go_at_call 20; refine (Asked_any R A1 n1 c1 m A n0 c qs A2 k c2 _ (rr.out.on hbel) (rs.out.on hbel) (rq.out.on hbel) hsr.out (by omega) hn2).mono ?_; rintro e w1 ⟨A3, c3, rfl, o3, hb3⟩; have ru := Lib.hid (Rd.of_own o3); clear o3)
        | (go_at_call 19; refine (same_ints (answers R m qs) A3 B k c3 d _ ru.out (ro.out.on hb3) (by omega)).mono ?_; rintro e w4 ⟨rfl, hb4⟩))
      go_ret
      exact ⟨rfl, below_step bw (below_step (below_step hbel hb3) hb4)⟩
end Go.Proofs.Ytnhaolhkanakeaa

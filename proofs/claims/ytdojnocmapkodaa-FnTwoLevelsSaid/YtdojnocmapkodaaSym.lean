/- The contract of Go's sort.symMerge: two sorted parts become one, stably. -/
import Derived.Test.YtdojnocmapkodaaSymPlain
import Derived.Test.YtdojnocmapkodaaRotate
import Derived.Test.YtdojnocmapkodaaSearch
import Derived.Deep.DeepCutAuto
namespace Go.Proofs.Ytdojnocmapkodaa
open Go.RowKit

set_option maxHeartbeats 8000000 in
set_option maxRecDepth 100000 in
/-- One element ahead of a sorted part. -/
theorem symOne_any (R : List Int) (AR : Option Addr) (m cR : Nat) (w0 W : World) (base g n c : Nat) (P Y Q : List (Int × Int)) (x : Int × Int) (a mm b : Nat) (hst : St w0 W base g n c (P ++ ([x] ++ (Y ++ Q)))) (hr : Rd w0 base 1 AR m (cZ R)) (hbw : base ≤ w0.heap.size)
    (ha : P.length = a) (hm : a + 1 = mm) (hb : mm + Y.length = b) (hY : Srt (rJ R) Y) (hn : n ≤ 4611686018427387904) :
    Calls Try.prog 50 #[.iface 63 (.agg #[.slice (some ⟨g, 0, none⟩) n c, .slice AR m cR]), .int .i64 a, .int .i64 mm, .int .i64 b] W fun e w' => e = .returned (.tuple #[]) ∧ St w0 w' base g n c (P ++ (stab (rJ R) ([x] ++ Y) ++ Q)) := by
  have hlen := hst.len
  have hPl : P.length + (Y.length + Q.length + 1) = n := by simpa [Nat.add_comm, Nat.add_left_comm, Nat.add_assoc] using hlen
  have mL := mLess (some ⟨g, 0, none⟩) AR n c m cR
  have mS := mSwap (some ⟨g, 0, none⟩) AR n c m cR
  have hbn : b ≤ n := by omega
  have hmb : mm ≤ b := by omega
  have ham : a + 1 ≤ mm := by omega
  have ham' : mm ≤ a + 1 := by omega
  have HA := Lib.hid ha
  have HB := Lib.hid hb
  have HM := Lib.hid hm
  have HY := Lib.hid hY
  clear hlen hPl ha hb hY hm
  have e0 : (((mm : Int) - (a : Int)) == 1) = true := by rw [beq_iff_eq]; omega
  have hxa : Hid (it (P ++ ([x] ++ (Y ++ Q))) a = x) := it_app HA.out.symm
  have hya : Hid (∀ h, mm ≤ h → h < b → it (P ++ ([x] ++ (Y ++ Q))) h = it Y (h - mm)) := fun h h1 h2 => by
    have := HA.out; have := HB.out
    rw [← List.append_assoc, it_right (by simp; omega), it_left (by simp; omega)]
    congr 1
    simp; omega
  go_enter Try.func50, Try.ntmps50
  go_wp2
  go_loopg [8, 9] b (fun kx vi vj wr => ∃ i j : Nat, vi = .int .i64 i ∧ vj = .int .i64 j ∧ mm ≤ i ∧ i ≤ j ∧ j ≤ b ∧ j - i ≤ kx ∧ Below W.heap.size W wr ∧ Hid (mm < i → rk R (it Y (i - 1 - mm)).1 < rk R x.1) ∧ Hid (j < b → rk R x.1 ≤ rk R (it Y (j - mm)).1))
  case atStart => exact ⟨mm, b, rfl, rfl, Nat.le_refl _, hmb, Nat.le_refl _, by omega, Below.refl _ _, fun h => absurd h (by omega), fun h => absurd h (by omega)⟩
  case round =>
    obtain ⟨i, j, rfl, rfl, hmi, hij, hjb, hkx, hbel, I1, I2⟩ := hrel
    by_cases hlt : i < j
    · go_wp2_with fail
      obtain ⟨h, hh⟩ : ∃ h, h = (i + j) / 2 := ⟨_, rfl⟩
      have h1 : i ≤ h := by omega
      have h2 : h < j := by omega
      rw [show ((i : Int) + (j : Int)) / 2 = (h : Int) by omega]
      clear hh
      have hLs := dLess_any R AR m cR w0 wr base g n c _ h a (hst.on hbel) hr hbw (by omega) (by omega)
      have hlv : ltAt R (P ++ ([x] ++ (Y ++ Q))) h a = decide (rk R (it Y (h - mm)).1 < rk R x.1) := by unfold ltAt; rw [hxa.out, hya.out h (by omega) (by omega)]
      rw [hlv] at hLs
      by_cases hv : rk R (it Y (h - mm)).1 < rk R x.1
      · rw [decide_eq_true hv] at hLs
        have HV := Lib.hid hv
        clear hv hlv
        refine hLs.mono ?_
        rintro e w' ⟨rfl, hb'⟩
        go_wp2
        go_roundg (j - (h + 1))
        case measure => omega
        case rel => exact ⟨h + 1, j, by go_num, rfl, by omega, by omega, hjb, Nat.le_refl _, below_step hbel hb', fun _ => by rw [Nat.add_sub_cancel]; exact HV.out, I2⟩
      · rw [decide_eq_false hv] at hLs
        have HV := Lib.hid hv
        clear hv hlv
        refine hLs.mono ?_
        rintro e w' ⟨rfl, hb'⟩
        go_wp2
        go_roundg (h - i)
        case measure => omega
        case rel => exact ⟨i, h, rfl, rfl, hmi, by omega, by omega, Nat.le_refl _, below_step hbel hb', I1, fun _ => by have := HV.out; omega⟩
    · obtain rfl : j = i := by omega
      have st2 := hst.on hbel
      have hA := HA.out
      have hB := HB.out
      have hM := HM.out
      have A1 : Hid (∀ y ∈ Y.take (j - mm), rk R y.1 < rk R x.1) := take_all HY.out (by omega) (p := fun v => v < rk R x.1) (fun u v h1 h2 => by omega) (fun h => by
        have := I1.out (by omega)
        rw [show j - mm - 1 = j - 1 - mm by omega]; exact this)
      have A2 : Hid (∀ y ∈ Y.drop (j - mm), rk R x.1 ≤ rk R y.1) := drop_all HY.out (p := fun v => rk R x.1 ≤ v) (fun u v h1 h2 => by omega) (fun h => I2.out (by omega))
      have HF : Hid (ms P Y x Q (j - mm) = P ++ (stab (rJ R) ([x] ++ Y) ++ Q)) := by
        unfold Hid
        rw [← stab_one_left R x Y (j - mm) HY.out A1.out A2.out]
        unfold ms
        simp only [List.append_assoc, List.cons_append]
      have HS0 : Hid (P ++ ([x] ++ (Y ++ Q)) = ms P Y x Q 0) := by simp [Hid, ms]
      have HYL : Hid (Y.length = b - mm) := by unfold Hid; omega
      clear hA hB hM A1 A2 I1 I2
      go_wp2_with fail
      obtain ⟨wo, rfl⟩ : ∃ wo : World, wo = wr := ⟨_, rfl⟩
      go_loopw [11] (fun vk wr => ∃ k : Nat, a ≤ k ∧ k + 1 ≤ j ∧ vk = .int .i64 k ∧ St w0 wr base g n c (ms P Y x Q (k - a))) (fun vk _ => j - (intOf vk).toNat)
      case atStart => exact ⟨a, Nat.le_refl _, by omega, rfl, by rw [Nat.sub_self, ← HS0.out]; exact st2⟩
      case round =>
        obtain ⟨k, hka, hkj, rfl, hst3⟩ := hrel
        by_cases hk : k + 1 < j
        · have hS := dSwap_any AR m cR w0 wr base g n c _ k (k + 1) hst3 (by omega) (by omega) (by omega)
          rw [ms_right P Y x Q (k - a) k (k + 1) (by rw [HYL.out]; omega) (by rw [HA.out]; omega) (by rw [HA.out]; omega)] at hS
          rw [show ((k + 1 : Nat) : Int) = (k : Int) + 1 by omega] at hS
          have HS := Lib.hid hS
          clear hS
          have q1 : (k : Int) < (j : Int) - 1 := by omega
          go_wp2_with (go_at_call 71; refine HS.out.mono ?_; rintro e w2 ⟨rfl, hs3⟩)
          go_roundw
          case rel => exact ⟨k + 1, by omega, by omega, by go_num, by rw [show k + 1 - a = k - a + 1 by omega]; exact hs3⟩
          case measure => simp [intOf]; omega
        · have ekj : k - a = j - mm := by omega
          rw [ekj, HF.out] at hst3
          clear ekj
          have q1 : ¬ (k : Int) < (j : Int) - 1 := by omega
          go_wp2
          refine bodyPost_ret (results_none rfl _ _ _) rfl ?_
          exact ⟨rfl, hst3⟩

set_option maxHeartbeats 8000000 in
set_option maxRecDepth 100000 in
/-- One element behind a sorted part of two and more. -/
theorem symLast_any (R : List Int) (AR : Option Addr) (m cR : Nat) (w0 W : World) (base g n c : Nat) (P X Q : List (Int × Int)) (y : Int × Int) (a mm b : Nat) (hst : St w0 W base g n c (P ++ (X ++ ([y] ++ Q)))) (hr : Rd w0 base 1 AR m (cZ R)) (hbw : base ≤ w0.heap.size)
    (ha : P.length = a) (hm : a + X.length = mm) (hb : mm + 1 = b) (hx2 : 2 ≤ X.length) (hX : Srt (rJ R) X) (hn : n ≤ 4611686018427387904) :
    Calls Try.prog 50 #[.iface 63 (.agg #[.slice (some ⟨g, 0, none⟩) n c, .slice AR m cR]), .int .i64 a, .int .i64 mm, .int .i64 b] W fun e w' => e = .returned (.tuple #[]) ∧ St w0 w' base g n c (P ++ (stab (rJ R) (X ++ [y]) ++ Q)) := by
  have hlen := hst.len
  have hPl : P.length + (X.length + (Q.length + 1)) = n := by simpa using hlen
  have mL := mLess (some ⟨g, 0, none⟩) AR n c m cR
  have mS := mSwap (some ⟨g, 0, none⟩) AR n c m cR
  have hbn : b ≤ n := by omega
  have hmb : mm + 1 ≤ b := by omega
  have hmb' : b ≤ mm + 1 := by omega
  have ham : a + 2 ≤ mm := by omega
  have HA := Lib.hid ha
  have HM := Lib.hid hm
  have HX := Lib.hid hX
  clear hlen hPl ha hb hX hm hx2
  have e0 : (((mm : Int) - (a : Int)) == 1) = false := by rw [beq_eq_false_iff_ne]; omega
  have e1 : (((b : Int) - (mm : Int)) == 1) = true := by rw [beq_iff_eq]; omega
  have hym : Hid (it (P ++ (X ++ ([y] ++ Q))) mm = y) := by
    unfold Hid
    rw [← List.append_assoc]
    exact it_app (by have := HA.out; have := HM.out; simp; omega)
  have hxa : Hid (∀ h, a ≤ h → h < mm → it (P ++ (X ++ ([y] ++ Q))) h = it X (h - a)) := fun h h1 h2 => by
    have := HA.out; have := HM.out
    rw [it_right (by omega), it_left (by omega), HA.out]
  go_enter Try.func50, Try.ntmps50
  go_wp2
  go_loopg [12, 13] mm (fun kx vi vj wr => ∃ i j : Nat, vi = .int .i64 i ∧ vj = .int .i64 j ∧ a ≤ i ∧ i ≤ j ∧ j ≤ mm ∧ j - i ≤ kx ∧ Below W.heap.size W wr ∧ Hid (a < i → rk R (it X (i - 1 - a)).1 ≤ rk R y.1) ∧ Hid (j < mm → rk R y.1 < rk R (it X (j - a)).1))
  case atStart => exact ⟨a, mm, rfl, rfl, Nat.le_refl _, by omega, Nat.le_refl _, by omega, Below.refl _ _, fun h => absurd h (by omega), fun h => absurd h (by omega)⟩
  case round =>
    obtain ⟨i, j, rfl, rfl, hmi, hij, hjb, hkx, hbel, I1, I2⟩ := hrel
    by_cases hlt : i < j
    · go_wp2_with fail
      obtain ⟨h, hh⟩ : ∃ h, h = (i + j) / 2 := ⟨_, rfl⟩
      have h1 : i ≤ h := by omega
      have h2 : h < j := by omega
      rw [show ((i : Int) + (j : Int)) / 2 = (h : Int) by omega]
      clear hh
      have hLs := dLess_any R AR m cR w0 wr base g n c _ mm h (hst.on hbel) hr hbw (by omega) (by omega)
      have hlv : ltAt R (P ++ (X ++ ([y] ++ Q))) mm h = decide (rk R y.1 < rk R (it X (h - a)).1) := by unfold ltAt; rw [hym.out, hxa.out h (by omega) (by omega)]
      rw [hlv] at hLs
      by_cases hv : rk R y.1 < rk R (it X (h - a)).1
      · rw [decide_eq_true hv] at hLs
        have HV := Lib.hid hv
        clear hv hlv
        refine hLs.mono ?_
        rintro e w' ⟨rfl, hb'⟩
        go_wp2
        go_roundg (h - i)
        case measure => omega
        case rel => exact ⟨i, h, rfl, rfl, hmi, by omega, by omega, Nat.le_refl _, below_step hbel hb', I1, fun _ => HV.out⟩
      · rw [decide_eq_false hv] at hLs
        have HV := Lib.hid hv
        clear hv hlv
        refine hLs.mono ?_
        rintro e w' ⟨rfl, hb'⟩
        go_wp2
        go_roundg (j - (h + 1))
        case measure => omega
        case rel => exact ⟨h + 1, j, by go_num, rfl, by omega, by omega, hjb, Nat.le_refl _, below_step hbel hb', fun _ => by rw [Nat.add_sub_cancel]; have := HV.out; omega, I2⟩
    · obtain rfl : j = i := by omega
      have st2 := hst.on hbel
      have hA := HA.out
      have hM := HM.out
      have A1 : Hid (∀ x ∈ X.take (j - a), rk R x.1 ≤ rk R y.1) := take_all HX.out (by omega) (p := fun v => v ≤ rk R y.1) (fun u v h1 h2 => by omega) (fun h => by
        have := I1.out (by omega)
        rw [show j - a - 1 = j - 1 - a by omega]; exact this)
      have A2 : Hid (∀ x ∈ X.drop (j - a), rk R y.1 < rk R x.1) := drop_all HX.out (p := fun v => rk R y.1 < v) (fun u v h1 h2 => by omega) (fun h => I2.out (by omega))
      have HF : Hid (ms P X y Q (j - a) = P ++ (stab (rJ R) (X ++ [y]) ++ Q)) := by
        unfold Hid
        rw [← stab_one_right R y X (j - a) HX.out A1.out A2.out]
        unfold ms
        simp only [List.append_assoc, List.cons_append]
      have HS0 : Hid (P ++ (X ++ ([y] ++ Q)) = ms P X y Q (mm - a)) := by
        unfold Hid ms
        rw [List.take_of_length_le (by omega), List.drop_eq_nil_of_le (by omega)]
        rfl
      have HXL : Hid (X.length = mm - a) := by unfold Hid; omega
      clear hA hM A1 A2 I1 I2
      go_wp2_with fail
      obtain ⟨wo, rfl⟩ : ∃ wo : World, wo = wr := ⟨_, rfl⟩
      go_loopw [15] (fun vk wr => ∃ k : Nat, j ≤ k ∧ k ≤ mm ∧ vk = .int .i64 k ∧ St w0 wr base g n c (ms P X y Q (k - a))) (fun vk _ => (intOf vk).toNat)
      case atStart => exact ⟨mm, hjb, Nat.le_refl _, rfl, by rw [← HS0.out]; exact st2⟩
      case round =>
        obtain ⟨k, hka, hkj, rfl, hst3⟩ := hrel
        by_cases hk : j < k
        · have hS := dSwap_any AR m cR w0 wr base g n c _ k (k - 1) hst3 (by omega) (by omega) (by omega)
          have es : swp (ms P X y Q (k - a)) k (k - 1) = ms P X y Q (k - 1 - a) := by
            have := ms_left P X y Q (k - 1 - a) k (k - 1) (by rw [HXL.out]; omega) (by rw [HA.out]; omega) (by rw [HA.out]; omega)
            rw [show k - 1 - a + 1 = k - a by omega] at this
            exact this
          rw [es, show ((k - 1 : Nat) : Int) = (k : Int) - 1 by omega] at hS
          have HS := Lib.hid hS
          clear hS es
          have q1 : (j : Int) < (k : Int) := by omega
          go_wp2_with (go_at_call 71; refine HS.out.mono ?_; rintro e w2 ⟨rfl, hs3⟩)
          go_roundw
          case rel => exact ⟨k - 1, by omega, by omega, by go_num, hs3⟩
          case measure => simp [intOf]; omega
        · obtain rfl : k = j := by omega
          rw [HF.out] at hst3
          go_wp2
          refine bodyPost_ret (results_none rfl _ _ _) rfl ?_
          exact ⟨rfl, hst3⟩
end Go.Proofs.Ytdojnocmapkodaa

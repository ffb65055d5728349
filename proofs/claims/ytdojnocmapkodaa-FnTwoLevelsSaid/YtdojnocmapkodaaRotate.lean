/- The contracts of Go's sort.swapRange and sort.rotate. -/
import Derived.Test.YtdojnocmapkodaaIns
import Derived.Deep.LoopGhost
namespace Go.Proofs.Ytdojnocmapkodaa
open Go.RowKit

theorem swp_far (A B C : List (Int × Int)) (x y : Int × Int) (i j : Nat) (hi : i = A.length) (hj : j = A.length + 1 + B.length) : swp (A ++ x :: (B ++ y :: C)) i j = A ++ y :: (B ++ x :: C) := by
  subst hi hj
  unfold swp
  have h1 : it (A ++ x :: (B ++ y :: C)) A.length = x := it_app rfl
  have h2 : it (A ++ x :: (B ++ y :: C)) (A.length + 1 + B.length) = y := by
    rw [show A ++ x :: (B ++ y :: C) = (A ++ x :: B) ++ y :: C by simp]
    exact it_app (by simp; omega)
  rw [h1, h2]
  rw [show (A ++ x :: (B ++ y :: C)).set A.length y = (A ++ y :: B) ++ y :: C by simp]
  rw [show A.length + 1 + B.length = (A ++ y :: B).length by simp; omega]
  simp
/-- Two ranges of the same length, k elements of which have been exchanged. -/
def srS (P X Y Z Q : List (Int × Int)) (k : Nat) : List (Int × Int) := P ++ ((Z.take k ++ X.drop k) ++ (Y ++ ((X.take k ++ Z.drop k) ++ Q)))
theorem srS_step (P X Y Z Q : List (Int × Int)) (k i j : Nat) (hx : k < X.length) (hz : Z.length = X.length) (hi : i = P.length + k) (hj : j = P.length + X.length + Y.length + k) : swp (srS P X Y Z Q k) i j = srS P X Y Z Q (k + 1) := by
  have e : srS P X Y Z Q k = (P ++ Z.take k) ++ X[k] :: ((X.drop (k + 1) ++ (Y ++ X.take k)) ++ Z[k] :: (Z.drop (k + 1) ++ Q)) := by
    unfold srS
    rw [List.drop_eq_getElem_cons hx, List.drop_eq_getElem_cons (l := Z) (i := k) (by omega)]
    simp only [List.append_assoc, List.cons_append]
  rw [e, swp_far _ _ _ _ _ i j (by simp; omega) (by simp; omega)]
  unfold srS
  rw [take_snoc X k hx, take_snoc Z k (by omega)]
  simp only [List.append_assoc, List.cons_append, List.nil_append]

set_option maxHeartbeats 2000000 in
theorem swapRange_any (AR : Option Addr) (m cR : Nat) (w0 W : World) (base g n c : Nat) (P X Y Z Q : List (Int × Int)) (a b k : Nat) (hst : St w0 W base g n c (P ++ (X ++ (Y ++ (Z ++ Q)))))
    (ha : P.length = a) (hx : X.length = k) (hz : Z.length = k) (hb : a + k + Y.length = b) (hn : n ≤ 9223372036854775806) :
    Calls Try.prog 52 #[.iface 63 (.agg #[.slice (some ⟨g, 0, none⟩) n c, .slice AR m cR]), .int .i64 a, .int .i64 b, .int .i64 k] W fun e w' => e = .returned (.tuple #[]) ∧ St w0 w' base g n c (P ++ (Z ++ (Y ++ (X ++ Q)))) := by
  have hlen := hst.len
  have hPl : P.length + (X.length + (Y.length + (Z.length + Q.length))) = n := by simpa using hlen
  have mS := mSwap (some ⟨g, 0, none⟩) AR n c m cR
  have hbn : b + k ≤ n := by omega
  have hakb : a + k ≤ b := by omega
  have HA := Lib.hid ha
  have HX := Lib.hid hx
  have HZ := Lib.hid hz
  have HB := Lib.hid hb
  clear hlen hPl ha hx hz hb
  go_enter Try.func52, Try.ntmps52
  go_wp2
  go_loopw [8] (fun vi wr => ∃ t : Nat, t ≤ k ∧ vi = .int .i64 t ∧ St w0 wr base g n c (srS P X Y Z Q t)) (fun vi _ => k - (intOf vi).toNat)
  case atStart => exact ⟨0, Nat.zero_le _, rfl, by simpa [srS] using hst⟩
  case round =>
    obtain ⟨t, ht, rfl, hst2⟩ := hrel
    by_cases hlt : t < k
    · have hS := dSwap_any AR m cR w0 wr base g n c _ (a + t) (b + t) hst2 (by omega) (by omega) (by omega)
      rw [srS_step P X Y Z Q t (a + t) (b + t) (by rw [HX.out]; exact hlt) (by rw [HX.out, HZ.out]) (by rw [HA.out]) (by rw [HA.out, HX.out, HB.out])] at hS
      rw [show ((a + t : Nat) : Int) = (a : Int) + t by omega, show ((b + t : Nat) : Int) = (b : Int) + t by omega] at hS
      have HS := Lib.hid hS
      clear hS
      go_wp2_with (go_at_call 71; refine HS.out.mono ?_; rintro e w2 ⟨rfl, hs3⟩)
      go_roundw
      case rel => exact ⟨t + 1, by omega, by go_num, hs3⟩
      case measure => simp [intOf]; omega
    · obtain rfl : t = k := by omega
      have e : srS P X Y Z Q t = P ++ (Z ++ (Y ++ (X ++ Q))) := by
        unfold srS
        rw [List.take_of_length_le (by rw [HZ.out]; exact Nat.le_refl _), List.take_of_length_le (by rw [HX.out]; exact Nat.le_refl _), List.drop_eq_nil_of_le (by rw [HX.out]; exact Nat.le_refl _), List.drop_eq_nil_of_le (by rw [HZ.out]; exact Nat.le_refl _)]
        simp
      rw [e] at hst2
      clear e
      go_wp2
      go_end0
      exact ⟨rfl, hst2⟩

set_option maxHeartbeats 4000000 in
theorem rotate_any (AR : Option Addr) (m cR : Nat) (w0 W : World) (base g n c : Nat) (P X Y Q : List (Int × Int)) (a mm b : Nat) (hst : St w0 W base g n c (P ++ (X ++ (Y ++ Q))))
    (ha : P.length = a) (hx : a + X.length = mm) (hy : mm + Y.length = b) (hx0 : 0 < X.length) (hy0 : 0 < Y.length) (hn : n ≤ 9223372036854775806) :
    Calls Try.prog 51 #[.iface 63 (.agg #[.slice (some ⟨g, 0, none⟩) n c, .slice AR m cR]), .int .i64 a, .int .i64 mm, .int .i64 b] W fun e w' => e = .returned (.tuple #[]) ∧ St w0 w' base g n c (P ++ (Y ++ (X ++ Q))) := by
  have hlen := hst.len
  have hPl : P.length + (X.length + (Y.length + Q.length)) = n := by simpa using hlen
  have hbn : b ≤ n := by omega
  have h1 : a < mm := by omega
  have h2 : mm < b := by omega
  have HA := Lib.hid ha
  have HX := Lib.hid hx
  have HY := Lib.hid hy
  clear hlen hPl ha hx hy hx0 hy0
  go_enter Try.func51, Try.ntmps51
  go_wp2
  go_loopg [8, 9] (b - a) (fun kx vi vj wr => ∃ (i j : Nat) (A U V B : List (Int × Int)), vi = .int .i64 i ∧ vj = .int .i64 j ∧ 1 ≤ i ∧ 1 ≤ j ∧ i ≤ mm ∧ mm + j ≤ b ∧ i + j ≤ kx ∧ Hid (P.length + A.length + i = mm) ∧ Hid (U.length = i) ∧ Hid (V.length = j) ∧
      St w0 wr base g n c ((P ++ A) ++ (U ++ (V ++ (B ++ Q)))) ∧ Hid (A ++ (V ++ (U ++ B)) = Y ++ X))
  case atStart => exact ⟨mm - a, b - mm, [], X, Y, [], by go_num, by go_num, by omega, by omega, by omega, by omega, by omega, by unfold Hid; rw [HA.out]; simp; omega, by unfold Hid; have := HX.out; omega, by unfold Hid; have := HY.out; omega, by simpa using hst, by simp [Hid]⟩
  case round =>
    obtain ⟨i, j, A, U, V, B, rfl, rfl, hi, hj, him, hjb, hkx, HI, HU, HV, hst2, HT⟩ := hrel
    rcases Nat.lt_trichotomy i j with hlt | heq | hgt
    · have e1 : ((i : Int) != (j : Int)) = true := by rw [bne_iff_ne]; omega
      have e2 : ¬ (j : Int) < (i : Int) := by omega
      have hsr := swapRange_any AR m cR w0 wr base g n c (P ++ A) U (V.take (j - i)) (V.drop (j - i)) (B ++ Q) (mm - i) (mm + j - i) i
        (by rw [← List.append_assoc (V.take (j - i)), List.take_append_drop]; exact hst2) (by have := HI.out; simp; omega) HU.out (by rw [List.length_drop, HV.out]; omega) (by rw [List.length_take, HV.out]; omega) hn
      rw [show ((mm - i : Nat) : Int) = (mm : Int) - i by omega, show ((mm + j - i : Nat) : Int) = (mm : Int) + j - i by omega] at hsr
      have HSR := Lib.hid hsr
      clear hsr
      go_wp2_with fail
      refine HSR.out.mono ?_
      rintro e w2 ⟨rfl, hs3⟩
      go_wp2
      go_roundg (j)
      case measure => omega
      case rel => exact ⟨i, j - i, A, V.drop (j - i), V.take (j - i), U ++ B, rfl, by go_num, hi, by omega, him, by omega, by omega, HI, by unfold Hid; rw [List.length_drop, HV.out]; omega, by unfold Hid; rw [List.length_take, HV.out]; omega, by simpa using hs3, by
        unfold Hid
        rw [← HT.out, ← List.append_assoc (V.take (j - i)), List.take_append_drop]⟩
    · have e1 : ((i : Int) != (j : Int)) = false := by rw [bne_eq_false_iff_eq]; omega
      have hsr := swapRange_any AR m cR w0 wr base g n c (P ++ A) U [] V (B ++ Q) (mm - i) mm i
        (by simpa using hst2) (by have := HI.out; simp; omega) HU.out (by rw [HV.out]; omega) (by simp; omega) hn
      rw [show ((mm - i : Nat) : Int) = (mm : Int) - i by omega] at hsr
      have HSR := Lib.hid hsr
      clear hsr
      have HF : Hid ((P ++ A) ++ (V ++ ([] ++ (U ++ (B ++ Q)))) = P ++ (Y ++ (X ++ Q))) := by
        unfold Hid
        have := congrArg (fun l => P ++ (l ++ Q)) HT.out
        simpa using this
      have HEQ := Lib.hid heq
      clear heq
      go_wp2_with fail
      refine HSR.out.mono ?_
      rintro e w2 ⟨rfl, hs3⟩
      rw [HF.out] at hs3
      go_wp2
      go_end0
      exact ⟨rfl, hs3⟩
    · have e1 : ((i : Int) != (j : Int)) = true := by rw [bne_iff_ne]; omega
      have e2 : (j : Int) < (i : Int) := by omega
      have hsr := swapRange_any AR m cR w0 wr base g n c (P ++ A) (U.take j) (U.drop j) V (B ++ Q) (mm - i) mm j
        (by rw [← List.append_assoc (U.take j), List.take_append_drop]; exact hst2) (by have := HI.out; simp; omega) (by rw [List.length_take, HU.out]; omega) HV.out (by rw [List.length_drop, HU.out]; omega) hn
      rw [show ((mm - i : Nat) : Int) = (mm : Int) - i by omega] at hsr
      have HSR := Lib.hid hsr
      clear hsr
      go_wp2_with fail
      refine HSR.out.mono ?_
      rintro e w2 ⟨rfl, hs3⟩
      go_wp2
      go_roundg (i)
      case measure => omega
      case rel => exact ⟨i - j, j, A ++ V, U.drop j, U.take j, B, by go_num, rfl, by omega, hj, by omega, hjb, by omega, by unfold Hid; have := HI.out; simp [HV.out]; omega, by unfold Hid; rw [List.length_drop, HU.out], by unfold Hid; rw [List.length_take, HU.out]; omega, by simpa using hs3, by
        unfold Hid
        rw [← HT.out]
        rw [List.append_assoc, ← List.append_assoc (U.take j), List.take_append_drop]⟩
end Go.Proofs.Ytdojnocmapkodaa

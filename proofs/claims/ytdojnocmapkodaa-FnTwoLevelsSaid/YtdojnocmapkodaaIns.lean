/- The contract of Go's sort.insertionSort: the part from a to b is sorted stably, the rest is as it was. -/
import Derived.Test.YtdojnocmapkodaaData
import Derived.Test.YtdojnocmapkodaaSort
import Derived.Test.YtdojnocmapkodaaPlain
namespace Go.Proofs.Ytdojnocmapkodaa
open Go.RowKit

theorem it_app {A B : List (Int × Int)} {x : Int × Int} {i : Nat} (h : i = A.length) : it (A ++ x :: B) i = x := by subst h; simp [it]
/-- Two neighbours exchanged. -/
theorem swp_adj (A B : List (Int × Int)) (x y : Int × Int) (i j : Nat) (hi : i = A.length + 1) (hj : j = A.length) : swp (A ++ y :: x :: B) i j = A ++ x :: y :: B := by
  subst hi hj
  unfold swp
  rw [it_app rfl, show it (A ++ y :: x :: B) (A.length + 1) = x by simp [it]]
  simp
theorem swp_adj' (A B : List (Int × Int)) (x y : Int × Int) (i j : Nat) (hi : i = A.length) (hj : j = A.length + 1) : swp (A ++ y :: x :: B) i j = A ++ x :: y :: B := by
  subst hi hj
  unfold swp
  rw [it_app rfl, show it (A ++ y :: x :: B) (A.length + 1) = x by simp [it]]
  simp

/-- The rank of an item. -/
def rJ (R : List Int) (x : Int × Int) : Int := rk R x.1
/-- The list while the element k of S is on its way to the left, t elements of the sorted part still ahead of it. -/
def insS (R : List Int) (P S Q : List (Int × Int)) (k t : Nat) : List (Int × Int) :=
  P ++ ((stab (rJ R) (S.take k)).take t ++ (it S k :: ((stab (rJ R) (S.take k)).drop t ++ (S.drop (k + 1) ++ Q))))
def insO (R : List Int) (P S Q : List (Int × Int)) (k : Nat) : List (Int × Int) := P ++ (stab (rJ R) (S.take k) ++ (S.drop k ++ Q))
theorem insS_start (R : List Int) (P S Q : List (Int × Int)) (k : Nat) (hk : k < S.length) : insS R P S Q k k = insO R P S Q k := by
  unfold insS insO
  have hl : (stab (rJ R) (S.take k)).length = k := by rw [stab_len]; simp; omega
  rw [List.take_of_length_le (by omega), List.drop_eq_nil_of_le (i := k) (by omega), List.drop_eq_getElem_cons hk, it_lt hk]
  simp only [List.nil_append, List.cons_append]
theorem insS_x (R : List Int) (P S Q : List (Int × Int)) (k t : Nat) (hk : k < S.length) (ht : t ≤ k) : it (insS R P S Q k t) (P.length + t) = it S k := by
  unfold insS
  rw [← List.append_assoc]
  refine it_app ?_
  have hl : (stab (rJ R) (S.take k)).length = k := by rw [stab_len]; simp; omega
  simp [hl]; omega
theorem insS_split (R : List Int) (P S Q : List (Int × Int)) (k t : Nat) (hk : k < S.length) (ht : t < k) :
    insS R P S Q k (t + 1) = (P ++ (stab (rJ R) (S.take k)).take t) ++ it (stab (rJ R) (S.take k)) t :: it S k :: ((stab (rJ R) (S.take k)).drop (t + 1) ++ (S.drop (k + 1) ++ Q)) := by
  unfold insS
  have hl : (stab (rJ R) (S.take k)).length = k := by rw [stab_len]; simp; omega
  rw [take_snoc _ t (by omega), it_lt (l := stab (rJ R) (S.take k)) (by omega)]
  simp only [List.append_assoc, List.cons_append, List.nil_append]
theorem insS_y (R : List Int) (P S Q : List (Int × Int)) (k t : Nat) (hk : k < S.length) (ht : t < k) : it (insS R P S Q k (t + 1)) (P.length + t) = it (stab (rJ R) (S.take k)) t := by
  rw [insS_split R P S Q k t hk ht]
  refine it_app ?_
  have hl : (stab (rJ R) (S.take k)).length = k := by rw [stab_len]; simp; omega
  simp [hl]; omega
theorem insS_swap (R : List Int) (P S Q : List (Int × Int)) (k t i j : Nat) (hk : k < S.length) (ht : t < k) (hi : i = P.length + t + 1) (hj : j = P.length + t) : swp (insS R P S Q k (t + 1)) i j = insS R P S Q k t := by
  have hl : (stab (rJ R) (S.take k)).length = k := by rw [stab_len]; simp; omega
  have hpl : (P ++ (stab (rJ R) (S.take k)).take t).length = P.length + t := by simp [hl]; omega
  rw [insS_split R P S Q k t hk ht, swp_adj _ _ _ _ i j (by rw [hpl]; omega) (by rw [hpl]; omega)]
  unfold insS
  rw [List.drop_eq_getElem_cons (l := stab (rJ R) (S.take k)) (i := t) (by omega), it_lt (l := stab (rJ R) (S.take k)) (by omega)]
  simp only [List.append_assoc, List.cons_append]
/-- The element has come to its place. -/
theorem insS_end (R : List Int) (P S Q : List (Int × Int)) (k t : Nat) (hk : k < S.length) (ht : t ≤ k) (h1 : ∀ y ∈ (stab (rJ R) (S.take k)).drop t, rk R (it S k).1 < rk R y.1)
    (h2 : t = 0 ∨ ¬ rk R (it S k).1 < rk R (it (stab (rJ R) (S.take k)) (t - 1)).1) : insS R P S Q k t = insO R P S Q (k + 1) := by
  have hl : (stab (rJ R) (S.take k)).length = k := by rw [stab_len]; simp; omega
  have hs : Srt (rJ R) (stab (rJ R) (S.take k)) := stab_srt _ _
  have hf := stab_filter (rJ R) (S.take k)
  have key : (stab (rJ R) (S.take k)).take t ++ (it S k :: (stab (rJ R) (S.take k)).drop t) = stab (rJ R) (S.take (k + 1)) := by
    refine stab_of (rJ R) _ _ ?_ fun c => ?_
    · generalize stab (rJ R) (S.take k) = M at *
      have hle : ∀ y ∈ M.take t, rk R y.1 ≤ rk R (it S k).1 := fun y hy => by
        rcases h2 with rfl | h2
        · simp at hy
        · obtain ⟨i, hi, rfl⟩ := List.mem_iff_getElem.1 hy
          have hi' : i < t := by simp at hi; omega
          rw [List.getElem_take]
          rw [it_lt (l := M) (by omega)] at h2
          rcases Nat.lt_or_ge i (t - 1) with hlt | hge
          · have := List.pairwise_iff_getElem.1 hs i (t - 1) (by omega) (by omega) hlt
            unfold rJ at this
            omega
          · have e : i = t - 1 := by omega
            subst e
            omega
      have hs' : Srt (rJ R) (M.take t ++ M.drop t) := by rw [List.take_append_drop]; exact hs
      unfold Srt at hs' ⊢
      rw [List.pairwise_append] at hs' ⊢
      refine ⟨hs'.1, List.pairwise_cons.2 ⟨fun y hy => Int.le_of_lt (h1 y hy), hs'.2.1⟩, fun a ha b hb => ?_⟩
      rcases List.mem_cons.1 hb with rfl | hb
      · exact hle a ha
      · exact hs'.2.2 a ha b hb
    · rw [take_snoc S k hk, ← it_lt hk, List.filter_append (p := fun z => rJ R z == c) (S.take k), ← hf c]
      generalize stab (rJ R) (S.take k) = M at *
      conv => rhs; rw [← List.take_append_drop t M]
      rw [List.filter_append, List.filter_append, List.append_assoc]
      congr 1
      by_cases hc : rJ R (it S k) = c
      · have h0 : (M.drop t).filter (fun z => rJ R z == c) = [] := by
          rw [List.filter_eq_nil_iff]
          intro y hy
          have := h1 y hy
          unfold rJ at hc ⊢
          simp
          omega
        rw [List.filter_cons, h0]
        simp [hc]
      · simp [hc]
  unfold insS insO
  rw [← key]
  simp only [List.append_assoc, List.cons_append]
theorem insO_len (R : List Int) (P S Q : List (Int × Int)) (k : Nat) : (insO R P S Q k).length = P.length + S.length + Q.length := by
  unfold insO
  simp [stab_len]
  omega
theorem insO_one (R : List Int) (P S Q : List (Int × Int)) : insO R P S Q 1 = P ++ (S ++ Q) := by
  unfold insO
  cases S with
  | nil => simp [stab]
  | cons x S => simp [stab, ins]
theorem insO_end (R : List Int) (P S Q : List (Int × Int)) (k : Nat) (hk : S.length ≤ k) : insO R P S Q k = P ++ (stab (rJ R) S ++ Q) := by
  unfold insO
  rw [List.take_of_length_le hk, List.drop_eq_nil_of_le hk]
  simp

/-- How the methods of the row are found. -/
theorem mLess (A AR : Option Addr) (n c m cR : Nat) : ∀ w, Sem.run Try.prog (method 199 63 (.agg #[.slice A n c, .slice AR m cR]) "Less") w = .ok (70, .agg #[.slice A n c, .slice AR m cR]) w := fun _ => by kernel_rfl
theorem mSwap (A AR : Option Addr) (n c m cR : Nat) : ∀ w, Sem.run Try.prog (method 199 63 (.agg #[.slice A n c, .slice AR m cR]) "Swap") w = .ok (71, .agg #[.slice A n c, .slice AR m cR]) w := fun _ => by kernel_rfl
theorem mLen (A AR : Option Addr) (n c m cR : Nat) : ∀ w, Sem.run Try.prog (method 199 63 (.agg #[.slice A n c, .slice AR m cR]) "Len") w = .ok (69, .agg #[.slice A n c, .slice AR m cR]) w := fun _ => by kernel_rfl

set_option maxHeartbeats 4000000 in
theorem insertionSort_any (R : List Int) (AR : Option Addr) (m cR : Nat) (w0 W : World) (base g n c : Nat) (P S Q : List (Int × Int)) (a b : Nat) (hst : St w0 W base g n c (P ++ (S ++ Q))) (hr : Rd w0 base 1 AR m (cZ R)) (hb : base ≤ w0.heap.size)
    (ha : P.length = a) (hab : a + S.length = b) (hn : n ≤ 9223372036854775806) :
    Calls Try.prog 49 #[.iface 63 (.agg #[.slice (some ⟨g, 0, none⟩) n c, .slice AR m cR]), .int .i64 a, .int .i64 b] W fun e w' => e = .returned (.tuple #[]) ∧ St w0 w' base g n c (P ++ (stab (rJ R) S ++ Q)) := by
  have hlen := hst.len
  have hPl : P.length + S.length + Q.length = n := by simpa [Nat.add_assoc] using hlen
  have mL := mLess (some ⟨g, 0, none⟩) AR n c m cR
  have mS := mSwap (some ⟨g, 0, none⟩) AR n c m cR
  have HA := Lib.hid ha
  have HPL := Lib.hid hPl
  have hbn : b ≤ n := by omega
  have hab' : a ≤ b := by omega
  have HB := Lib.hid hab
  clear hlen ha hPl hab
  go_enter Try.func49, Try.ntmps49
  go_wp2
  go_loopw [6] (fun vi wr => ∃ I : Nat, a + 1 ≤ I ∧ I ≤ b + 1 ∧ vi = .int .i64 I ∧ St w0 wr base g n c (insO R P S Q (I - a))) (fun vi _ => b + 1 - (intOf vi).toNat)
  case atStart => exact ⟨a + 1, Nat.le_refl _, by omega, by go_num, by rw [Nat.add_sub_cancel_left, insO_one]; exact hst⟩
  case round =>
    obtain ⟨I, hI1, hIb, rfl, hstk⟩ := hrel
    by_cases hlt : I < b
    · obtain ⟨k, hk⟩ : ∃ k, k = I - a := ⟨_, rfl⟩
      rw [← hk] at hstk
      have hkI : a + k = I := by omega
      have HKI := Lib.hid hkI
      have HKS : Hid (k < S.length) := by unfold Hid; have := HB.out; omega
      clear hk hkI
      go_wp2_with fail
      obtain ⟨wo, rfl⟩ : ∃ wo : World, wo = wr := ⟨_, rfl⟩
      go_loopw [7] (fun vj wr2 => ∃ J : Nat, a ≤ J ∧ J ≤ I ∧ vj = .int .i64 J ∧ St w0 wr2 base g n c (insS R P S Q k (J - a)) ∧ Hid (∀ y ∈ (stab (rJ R) (S.take k)).drop (J - a), rk R (it S k).1 < rk R y.1)) (fun vj _ => (intOf vj).toNat)
      case atStart => exact ⟨I, by omega, Nat.le_refl _, rfl, by rw [show I - a = k by have := HKI.out; omega, insS_start R P S Q k HKS.out]; exact hstk, fun y hy => by
        rw [List.drop_eq_nil_of_le (by rw [stab_len]; simp; have := HKI.out; omega)] at hy; cases hy⟩
      case round =>
        obtain ⟨J, hJa, hJI, rfl, hst2, II⟩ := hrel
        have OUT : Hid ((J = a ∨ ¬ rk R (it S k).1 < rk R (it (stab (rJ R) (S.take k)) (J - a - 1)).1) → insS R P S Q k (J - a) = insO R P S Q (I + 1 - a)) := fun h => by
          have hki := HKI.out
          rw [show I + 1 - a = k + 1 by omega]
          refine insS_end R P S Q k (J - a) HKS.out (by omega) II.out ?_
          rcases h with h | h
          · exact Or.inl (by omega)
          · exact Or.inr h
        by_cases hJ0 : a < J
        · have hx : Hid (it (insS R P S Q k (J - a)) J = it S k) := by
            have := insS_x R P S Q k (J - a) HKS.out (by have := HKI.out; omega)
            rw [HA.out, show a + (J - a) = J by omega] at this
            exact this
          have hy : Hid (it (insS R P S Q k (J - a)) (J - 1) = it (stab (rJ R) (S.take k)) (J - a - 1)) := by
            have := insS_y R P S Q k (J - a - 1) HKS.out (by have := HKI.out; omega)
            rw [HA.out, show J - a - 1 + 1 = J - a by omega, show a + (J - a - 1) = J - 1 by omega] at this
            exact this
          have hLs := dLess_any R AR m cR w0 wr base g n c _ J (J - 1) hst2 hr hb (by omega) (by omega)
          have hlv : ltAt R (insS R P S Q k (J - a)) J (J - 1) = decide (rk R (it S k).1 < rk R (it (stab (rJ R) (S.take k)) (J - a - 1)).1) := by unfold ltAt; rw [hx.out, hy.out]
          rw [hlv, show ((J - 1 : Nat) : Int) = (J : Int) - 1 by omega] at hLs
          clear hlv
          by_cases hv : rk R (it S k).1 < rk R (it (stab (rJ R) (S.take k)) (J - a - 1)).1
          · rw [decide_eq_true hv] at hLs
            have HLS := Lib.hid hLs
            have HSW : Hid (∀ W', Below wr.heap.size wr W' → Calls Try.prog 71 #[.agg #[.slice (some ⟨g, 0, none⟩) n c, .slice AR m cR], .int .i64 J, .int .i64 ((J : Int) - 1)] W' fun e w' => e = .returned (.tuple #[]) ∧ St w0 w' base g n c (insS R P S Q k (J - 1 - a))) := fun W' hb' => by
              have h := dSwap_any AR m cR w0 W' base g n c _ J (J - 1) (hst2.on hb') (by omega) (by omega) (by omega)
              have e : swp (insS R P S Q k (J - a)) J (J - 1) = insS R P S Q k (J - 1 - a) := by
                have := insS_swap R P S Q k (J - 1 - a) J (J - 1) HKS.out (by have := HKI.out; omega) (by rw [HA.out]; omega) (by rw [HA.out]; omega)
                rw [show J - 1 - a + 1 = J - a by omega] at this
                exact this
              rw [e, show ((J - 1 : Nat) : Int) = (J : Int) - 1 by omega] at h
              exact h
            have I2 : Hid (∀ y ∈ (stab (rJ R) (S.take k)).drop (J - 1 - a), rk R (it S k).1 < rk R y.1) := fun y hy => by
              have hl : (stab (rJ R) (S.take k)).length = k := by rw [stab_len]; simp; have := HKS.out; omega
              have hki := HKI.out
              rw [List.drop_eq_getElem_cons (by omega)] at hy
              rcases List.mem_cons.1 hy with rfl | hy
              · rw [it_lt (l := stab (rJ R) (S.take k)) (by omega)] at hv
                simpa [show J - a - 1 = J - 1 - a by omega] using hv
              · exact II.out y (by rw [show J - a = J - 1 - a + 1 by omega]; exact hy)
            have HV := Lib.hid hv
            clear hv hLs hst2 OUT hx hy
            go_wp2_with (first
              | (go_at_call 70; refine HLS.out.mono ?_; rintro e w' ⟨rfl, hb1⟩)
              | (go_at_call 71; refine (HSW.out _ hb1).mono ?_; rintro e w2 ⟨rfl, hs3⟩))
            go_roundw
            case rel => exact ⟨J - 1, by omega, by omega, by go_num, hs3, I2⟩
            case measure => simp [intOf]; omega
          · rw [decide_eq_false hv] at hLs
            have HLS := Lib.hid hLs
            have e := OUT.out (Or.inr hv)
            rw [e] at hst2
            clear hv hLs OUT hx hy e
            go_wp2_with (go_at_call 70; refine HLS.out.mono ?_; rintro e w' ⟨rfl, hb1⟩)
            go_roundw
            case rel => exact ⟨I + 1, by omega, by omega, by go_num, hst2.on hb1⟩
            case measure => simp [intOf]; omega
        · have e := OUT.out (Or.inl (by omega))
          rw [e] at hst2
          clear OUT e
          have hdj : decide ((a : Int) < (J : Int)) = false := by simp; omega
          go_wp2
          go_roundw
          case rel => exact ⟨I + 1, by omega, by omega, by go_num, hst2⟩
          case measure => simp [intOf]; omega
    · have e := insO_end R P S Q (I - a) (by have := HB.out; omega)
      rw [e] at hstk
      clear e
      go_wp2
      go_end0
      exact ⟨rfl, hstk⟩
end Go.Proofs.Ytdojnocmapkodaa

/- The contract of Go's sort.symMerge, whole: by induction on the length. -/
import Derived.Test.YtdojnocmapkodaaSym
namespace Go.Proofs.Ytdojnocmapkodaa
open Go.RowKit

theorem St.cast {w0 W : World} {base g n c : Nat} {d d' : List (Int × Int)} (h : St w0 W base g n c d) (e : d = d') : St w0 W base g n c d' := e ▸ h
/-- What symMerge does to two sorted parts of together at most N elements. -/
def SymSaid (R : List Int) (AR : Option Addr) (m cR : Nat) (w0 : World) (base g n c : Nat) (N : Nat) : Prop :=
  ∀ (W : World) (P X Y Q : List (Int × Int)) (a mm b : Nat), X.length + Y.length ≤ N → St w0 W base g n c (P ++ (X ++ (Y ++ Q))) → P.length = a → a + X.length = mm → mm + Y.length = b → 0 < X.length → 0 < Y.length → Srt (rJ R) X → Srt (rJ R) Y →
    Calls Try.prog 50 #[.iface 63 (.agg #[.slice (some ⟨g, 0, none⟩) n c, .slice AR m cR]), .int .i64 a, .int .i64 mm, .int .i64 b] W fun e w' => e = .returned (.tuple #[]) ∧ St w0 w' base g n c (P ++ (stab (rJ R) (X ++ Y) ++ Q))

set_option maxHeartbeats 16000000 in
set_option maxRecDepth 100000 in
theorem symMore_any (R : List Int) (AR : Option Addr) (m cR : Nat) (w0 : World) (base g n c : Nat) (N : Nat) (IH : SymSaid R AR m cR w0 base g n c N) (W : World) (P X Y Q : List (Int × Int)) (a mm b : Nat) (hN : X.length + Y.length ≤ N + 1) (hst : St w0 W base g n c (P ++ (X ++ (Y ++ Q))))
    (hr : Rd w0 base 1 AR m (cZ R)) (hbw : base ≤ w0.heap.size) (ha : P.length = a) (hm : a + X.length = mm) (hb : mm + Y.length = b) (hx2 : 2 ≤ X.length) (hy2 : 2 ≤ Y.length) (hX : Srt (rJ R) X) (hY : Srt (rJ R) Y) (hn : n ≤ 4611686018427387904) :
    Calls Try.prog 50 #[.iface 63 (.agg #[.slice (some ⟨g, 0, none⟩) n c, .slice AR m cR]), .int .i64 a, .int .i64 mm, .int .i64 b] W fun e w' => e = .returned (.tuple #[]) ∧ St w0 w' base g n c (P ++ (stab (rJ R) (X ++ Y) ++ Q)) := by
  have hlen := hst.len
  have hPl : P.length + (X.length + (Y.length + Q.length)) = n := by simpa using hlen
  have mL := mLess (some ⟨g, 0, none⟩) AR n c m cR
  have hbn : b ≤ n := by omega
  have ham : a + 2 ≤ mm := by omega
  have hmb : mm + 2 ≤ b := by omega
  have hN' : b - a ≤ N + 1 := by omega
  have HA := Lib.hid ha
  have HM := Lib.hid hm
  have HB := Lib.hid hb
  have HX := Lib.hid hX
  have HY := Lib.hid hY
  have HIH := Lib.hid IH
  clear hlen hPl ha hb hX hY hm hx2 hy2 hN IH
  have e0 : (((mm : Int) - (a : Int)) == 1) = false := by rw [beq_eq_false_iff_ne]; omega
  have e1 : (((b : Int) - (mm : Int)) == 1) = false := by rw [beq_eq_false_iff_ne]; omega
  obtain ⟨mid, hmid⟩ : ∃ mid, mid = (a + b) / 2 := ⟨_, rfl⟩
  have hm1 : 2 * mid ≤ a + b := by omega
  have hm2 : a + b ≤ 2 * mid + 1 := by omega
  have hmi : ((a : Int) + (b : Int)) / 2 = (mid : Int) := by omega
  clear hmid
  have hxa : Hid (∀ h, a ≤ h → h < mm → it (P ++ (X ++ (Y ++ Q))) h = it X (h - a)) := fun h h1 h2 => by
    have := HA.out; have := HM.out
    rw [it_right (by omega), it_left (by omega), HA.out]
  have hya : Hid (∀ h, mm ≤ h → h < b → it (P ++ (X ++ (Y ++ Q))) h = it Y (h - mm)) := fun h h1 h2 => by
    have := HA.out; have := HM.out; have := HB.out
    rw [← List.append_assoc, it_right (by simp; omega), it_left (by simp; omega)]
    congr 1
    simp; omega
  obtain ⟨s0, r0, hcase, hs1, hs2, hs3, hr1, hr2, hs4, hr3⟩ : ∃ s0 r0 : Nat, ((mid < mm ∧ mid + mm = s0 + b ∧ r0 = mid) ∨ (mm ≤ mid ∧ s0 = a ∧ r0 = mm)) ∧ a ≤ s0 ∧ s0 ≤ r0 ∧ mid + mm ≤ s0 + b ∧ r0 ≤ mm ∧ r0 ≤ mid ∧ (s0 ≤ a ∨ s0 + b ≤ mid + mm) ∧ (mm ≤ r0 ∨ mid ≤ r0) := by
    rcases Nat.lt_or_ge mid mm with h | h
    · exact ⟨mid + mm - b, mid, Or.inl ⟨h, by omega, rfl⟩, by omega, by omega, by omega, by omega, by omega, by omega, by omega⟩
    · exact ⟨a, mm, Or.inr ⟨h, rfl, rfl⟩, by omega, by omega, by omega, by omega, by omega, by omega, by omega⟩
  go_enter Try.func50, Try.ntmps50
  go_upto_if 102 with fail
  go_cut [18, 19] (fun vs vr wx => vs = .int .i64 s0 ∧ vr = .int .i64 r0 ∧ W = wx)
  case first =>
    rcases hcase with ⟨h1, h2, rfl⟩ | ⟨h1, rfl, rfl⟩
    · have hs : (r0 : Int) + (mm : Int) - (b : Int) = (s0 : Int) := by omega
      go_wp2
      go_meet
      exact ⟨rfl, rfl, rfl⟩
    · go_wp2
      go_meet
      exact ⟨rfl, rfl, rfl⟩
  case rest =>
    obtain ⟨rfl, rfl, rfl⟩ := hcut
    clear hcase
    go_wp2_with fail
    go_loopg [18, 19] b (fun kx vi vj wr => ∃ i j : Nat, vi = .int .i64 i ∧ vj = .int .i64 j ∧ s0 ≤ i ∧ i ≤ j ∧ j ≤ r0 ∧ j - i ≤ kx ∧ Below W.heap.size W wr ∧ Hid (s0 < i → rk R (it X (i - 1 - a)).1 ≤ rk R (it Y (mid - i)).1) ∧ Hid (j < r0 → rk R (it Y (mid - 1 - j)).1 < rk R (it X (j - a)).1))
    case atStart => exact ⟨s0, r0, rfl, rfl, Nat.le_refl _, hs2, Nat.le_refl _, by omega, Below.refl _ _, fun h => absurd h (by omega), fun h => absurd h (by omega)⟩
    case round =>
      obtain ⟨i, j, rfl, rfl, hsi, hij, hjr, hkx, hbel, I1, I2⟩ := hrel
      by_cases hlt : i < j
      · go_wp2_with fail
        obtain ⟨h, hh⟩ : ∃ h, h = (i + j) / 2 := ⟨_, rfl⟩
        have h1 : i ≤ h := by omega
        have h2 : h < j := by omega
        rw [show ((i : Int) + (j : Int)) / 2 = (h : Int) by omega]
        clear hh
        rw [show (mid : Int) + (mm : Int) - 1 - (h : Int) = ((mid + mm - 1 - h : Nat) : Int) by omega]
        have hLs := dLess_any R AR m cR w0 wr base g n c _ (mid + mm - 1 - h) h (hst.on hbel) hr hbw (by omega) (by omega)
        have hlv : ltAt R (P ++ (X ++ (Y ++ Q))) (mid + mm - 1 - h) h = decide (rk R (it Y (mid - 1 - h)).1 < rk R (it X (h - a)).1) := by
          unfold ltAt
          rw [hxa.out h (by omega) (by omega), hya.out (mid + mm - 1 - h) (by omega) (by omega), show mid + mm - 1 - h - mm = mid - 1 - h by omega]
        rw [hlv] at hLs
        by_cases hv : rk R (it Y (mid - 1 - h)).1 < rk R (it X (h - a)).1
        · rw [decide_eq_true hv] at hLs
          have HV := Lib.hid hv
          clear hv hlv
          refine hLs.mono ?_
          rintro e w' ⟨rfl, hb'⟩
          go_wp2
          go_roundg (h - i)
          case measure => omega
          case rel => exact ⟨i, h, rfl, rfl, hsi, by omega, by omega, Nat.le_refl _, below_step hbel hb', I1, fun _ => HV.out⟩
        · rw [decide_eq_false hv] at hLs
          have HV := Lib.hid hv
          clear hv hlv
          refine hLs.mono ?_
          rintro e w' ⟨rfl, hb'⟩
          go_wp2
          go_roundg (j - (h + 1))
          case measure => omega
          case rel => exact ⟨h + 1, j, by go_num, rfl, by omega, by omega, hjr, Nat.le_refl _, below_step hbel hb', fun _ => by rw [Nat.add_sub_cancel, show mid - (h + 1) = mid - 1 - h by omega]; have := HV.out; omega, I2⟩
      · obtain rfl : j = i := by omega
        have st2 := hst.on hbel
        have hA := HA.out
        have hM := HM.out
        have hB := HB.out
        obtain ⟨e, he⟩ : ∃ e, e = mid + mm - j := ⟨_, rfl⟩
        have hei : (mid : Int) + (mm : Int) - (j : Int) = (e : Int) := by omega
        have he1 : e + j = mid + mm := by omega
        clear he
        obtain ⟨X1, hX1⟩ : ∃ X1, X1 = X.take (j - a) := ⟨_, rfl⟩
        obtain ⟨X2, hX2⟩ : ∃ X2, X2 = X.drop (j - a) := ⟨_, rfl⟩
        obtain ⟨Y1, hY1⟩ : ∃ Y1, Y1 = Y.take (mid - j) := ⟨_, rfl⟩
        obtain ⟨Y2, hY2⟩ : ∃ Y2, Y2 = Y.drop (mid - j) := ⟨_, rfl⟩
        have eX : X = X1 ++ X2 := by rw [hX1, hX2, List.take_append_drop]
        have eY : Y = Y1 ++ Y2 := by rw [hY1, hY2, List.take_append_drop]
        have lX1 : X1.length = j - a := by rw [hX1, List.length_take]; omega
        have lX2 : X2.length = mm - j := by rw [hX2, List.length_drop]; omega
        have lY1 : Y1.length = mid - j := by rw [hY1, List.length_take]; omega
        have lY2 : Y2.length = b - e := by rw [hY2, List.length_drop]; omega
        have B1 : ∀ y ∈ Y1, ∀ x ∈ X2, rk R y.1 < rk R x.1 := fun y hy x hx => by
          rw [hY1] at hy
          rw [hX2] at hx
          have hjm : j < mm := by
            rcases Nat.lt_or_ge j mm with h | h
            · exact h
            · rw [List.drop_eq_nil_of_le (by omega)] at hx; cases hx
          have hjd : j < mid := by
            rcases Nat.lt_or_ge j mid with h | h
            · exact h
            · rw [show mid - j = 0 by omega] at hy; simp at hy
          have key := I2.out (by omega)
          have k1 := take_all HY.out (k := mid - j) (by omega) (p := fun v => v < rk R (it X (j - a)).1) (fun u v h1 h2 => by omega) (fun _ => by rw [show mid - j - 1 = mid - 1 - j by omega]; exact key) y hy
          have k2 := drop_all HX.out (k := j - a) (p := fun v => rk R (it X (j - a)).1 ≤ v) (fun u v h1 h2 => by omega) (fun _ => Int.le_refl _) x hx
          omega
        have B2 : ∀ x ∈ X1, ∀ y ∈ Y2, rk R x.1 ≤ rk R y.1 := fun x hx y hy => by
          rw [hX1] at hx
          rw [hY2] at hy
          have hja : a < j := by
            rcases Nat.lt_or_ge a j with h | h
            · exact h
            · rw [show j - a = 0 by omega] at hx; simp at hx
          have hjb : e < b := by
            rcases Nat.lt_or_ge e b with h | h
            · exact h
            · rw [List.drop_eq_nil_of_le (by omega)] at hy; cases hy
          have key := I1.out (by omega)
          have k1 := take_all HX.out (k := j - a) (by omega) (p := fun v => v ≤ rk R (it X (j - 1 - a)).1) (fun u v h1 h2 => by omega) (fun _ => by rw [show j - a - 1 = j - 1 - a by omega]; exact Int.le_refl _) x hx
          have k2 := drop_all HY.out (k := mid - j) (p := fun v => rk R (it Y (mid - j)).1 ≤ v) (fun u v h1 h2 => by omega) (fun _ => Int.le_refl _) y hy
          omega
        have sX1 : Srt (rJ R) X1 := by rw [hX1]; exact srt_take HX.out _
        have sX2 : Srt (rJ R) X2 := by rw [hX2]; exact srt_drop HX.out _
        have sY1 : Srt (rJ R) Y1 := by rw [hY1]; exact srt_take HY.out _
        have sY2 : Srt (rJ R) Y2 := by rw [hY2]; exact srt_drop HY.out _
        have HF : Hid (P ++ (stab (rJ R) (X1 ++ Y1) ++ (stab (rJ R) (X2 ++ Y2) ++ Q)) = P ++ (stab (rJ R) (X ++ Y) ++ Q)) := by
          unfold Hid
          rw [eX, eY, ← stab_cross R X1 X2 Y1 Y2 (by rw [← eX]; exact HX.out) (by rw [← eY]; exact HY.out) B1 B2]
          simp only [List.append_assoc]
        rw [eX, eY, List.append_assoc, List.append_assoc] at st2
        have E1 : Hid (¬ (j < mm ∧ j < mid) → P ++ (X1 ++ (X2 ++ (Y1 ++ (Y2 ++ Q)))) = P ++ (X1 ++ (Y1 ++ (X2 ++ (Y2 ++ Q))))) := fun h => by
          rcases Nat.lt_or_ge j mm with h1 | h1
          · have : Y1 = [] := List.eq_nil_of_length_eq_zero (by omega)
            rw [this]; rfl
          · have : X2 = [] := List.eq_nil_of_length_eq_zero (by omega)
            rw [this]; rfl
        have E2 : Hid (¬ (a < j ∧ j < mid) → P ++ (X1 ++ (Y1 ++ (X2 ++ (Y2 ++ Q)))) = P ++ (stab (rJ R) (X1 ++ Y1) ++ (X2 ++ (Y2 ++ Q)))) := fun h => by
          rcases Nat.lt_or_ge a j with h1 | h1
          · have : Y1 = [] := List.eq_nil_of_length_eq_zero (by omega)
            rw [this, List.append_nil, stab_of_srt _ _ sX1]; rfl
          · have : X1 = [] := List.eq_nil_of_length_eq_zero (by omega)
            rw [this, List.nil_append, List.nil_append, stab_of_srt _ _ sY1]
        have E3 : Hid (¬ (j < mm ∧ e < b) → P ++ (stab (rJ R) (X1 ++ Y1) ++ (X2 ++ (Y2 ++ Q))) = P ++ (stab (rJ R) (X1 ++ Y1) ++ (stab (rJ R) (X2 ++ Y2) ++ Q))) := fun h => by
          rcases Nat.lt_or_ge j mm with h1 | h1
          · have : Y2 = [] := List.eq_nil_of_length_eq_zero (by omega)
            rw [this, List.append_nil, stab_of_srt _ _ sX2]; rfl
          · have : X2 = [] := List.eq_nil_of_length_eq_zero (by omega)
            rw [this, List.nil_append, List.nil_append, stab_of_srt _ _ sY2]
        have HROT : Hid (j < mm → j < mid → ∀ W', St w0 W' base g n c (P ++ (X1 ++ (X2 ++ (Y1 ++ (Y2 ++ Q))))) → Calls Try.prog 51 #[.iface 63 (.agg #[.slice (some ⟨g, 0, none⟩) n c, .slice AR m cR]), .int .i64 j, .int .i64 mm, .int .i64 e] W' fun en w' => en = .returned (.tuple #[]) ∧ St w0 w' base g n c (P ++ (X1 ++ (Y1 ++ (X2 ++ (Y2 ++ Q)))))) := fun h1 h2 W' hs => by
          have := rotate_any AR m cR w0 W' base g n c (P ++ X1) X2 Y1 (Y2 ++ Q) j mm e (by simpa using hs) (by simp; omega) (by omega) (by omega) (by omega) (by omega) (by omega)
          simpa using this
        have HS1 : Hid (a < j → j < mid → ∀ W' D, St w0 W' base g n c D → D = P ++ (X1 ++ (Y1 ++ (X2 ++ (Y2 ++ Q)))) → Calls Try.prog 50 #[.iface 63 (.agg #[.slice (some ⟨g, 0, none⟩) n c, .slice AR m cR]), .int .i64 a, .int .i64 j, .int .i64 mid] W' fun en w' => en = .returned (.tuple #[]) ∧ St w0 w' base g n c (P ++ (stab (rJ R) (X1 ++ Y1) ++ (X2 ++ (Y2 ++ Q))))) := fun h1 h2 W' D hs hD => by
          subst hD
          exact HIH.out W' P X1 Y1 (X2 ++ (Y2 ++ Q)) a j mid (by omega) hs hA (by omega) (by omega) (by omega) (by omega) sX1 sY1
        have HS2 : Hid (j < mm → e < b → ∀ W' D, St w0 W' base g n c D → D = P ++ (stab (rJ R) (X1 ++ Y1) ++ (X2 ++ (Y2 ++ Q))) → Calls Try.prog 50 #[.iface 63 (.agg #[.slice (some ⟨g, 0, none⟩) n c, .slice AR m cR]), .int .i64 mid, .int .i64 e, .int .i64 b] W' fun en w' => en = .returned (.tuple #[]) ∧ St w0 w' base g n c (P ++ (stab (rJ R) (X1 ++ Y1) ++ (stab (rJ R) (X2 ++ Y2) ++ Q)))) := fun h1 h2 W' D hs hD => by
          subst hD
          have := HIH.out W' (P ++ stab (rJ R) (X1 ++ Y1)) X2 Y2 Q mid e b (by omega) (by simpa using hs) (by simp [stab_len]; omega) (by omega) (by omega) (by omega) (by omega) sX2 sY2
          simpa using this
        clear eX eY hX1 hX2 hY1 hY2 lX1 lX2 lY1 lY2 B1 B2 sX1 sX2 sY1 sY2 I1 I2 hA hM hB hst
        generalize P ++ (X1 ++ (X2 ++ (Y1 ++ (Y2 ++ Q)))) = D0 at *
        generalize P ++ (X1 ++ (Y1 ++ (X2 ++ (Y2 ++ Q)))) = D1 at *
        generalize P ++ (stab (rJ R) (X1 ++ Y1) ++ (X2 ++ (Y2 ++ Q))) = D2 at *
        generalize P ++ (stab (rJ R) (X1 ++ Y1) ++ (stab (rJ R) (X2 ++ Y2) ++ Q)) = D3 at *
        by_cases q1 : j < mm <;> by_cases q2 : j < mid <;> by_cases q3 : a < j <;> by_cases q4 : e < b
        all_goals first | (exfalso; omega) | skip
        all_goals
          go_wp2_with (first
            | (go_at_call 51; ((with_reducible refine (HROT.out (by assumption) (by assumption) _ (by assumption)).mono ?_); rintro en w1 ⟨rfl, hc1⟩))
            | (go_at_call 50; ((with_reducible refine (HS1.out (by assumption) (by assumption) _ _ (by assumption) (by first | rfl | (refine E1.out ?_; omega))).mono ?_); rintro en w2 ⟨rfl, hc2⟩))
            | (go_at_call 50; ((with_reducible refine (HS2.out (by assumption) (by assumption) _ _ (by assumption) (by first | rfl | (refine E2.out ?_; omega) | (refine (E1.out ?_).trans (E2.out ?_) <;> omega))).mono ?_); rintro en w3 ⟨rfl, hc3⟩)))
          go_end0
          refine ⟨rfl, St.cast (by assumption) ?_⟩
          first
            | exact HF.out
            | (refine (E3.out ?_).trans HF.out; omega)
            | (refine ((E2.out ?_).trans (E3.out ?_)).trans HF.out <;> omega)
            | (refine ((E1.out ?_).trans ((E2.out ?_).trans (E3.out ?_))).trans HF.out <;> omega)

theorem symMerge_any (R : List Int) (AR : Option Addr) (m cR : Nat) (w0 : World) (base g n c : Nat) (hr : Rd w0 base 1 AR m (cZ R)) (hbw : base ≤ w0.heap.size) (hn : n ≤ 4611686018427387904) : ∀ N, SymSaid R AR m cR w0 base g n c N
  | 0 => fun _ _ X Y _ _ _ _ hN _ _ _ _ hx hy => absurd hN (by omega)
  | N + 1 => fun W P X Y Q a mm b hN hst ha hm hb hx hy hX hY => by
    by_cases h1 : X.length = 1
    · match X, h1 with
      | [x], _ => exact symOne_any R AR m cR w0 W base g n c P Y Q x a mm b hst hr hbw ha hm hb hY hn
    · by_cases h2 : Y.length = 1
      · match Y, h2 with
        | [y], _ => exact symLast_any R AR m cR w0 W base g n c P X Q y a mm b hst hr hbw ha hm hb (by omega) hX hn
      · exact symMore_any R AR m cR w0 base g n c N (symMerge_any R AR m cR w0 base g n c hr hbw hn N) W P X Y Q a mm b hN hst hr hbw ha hm hb (by omega) (by omega) hX hY hn
end Go.Proofs.Ytdojnocmapkodaa

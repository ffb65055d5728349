/- FnQuick returns true: for every list, item and order. -/
import Derived.Test.YtbfeokhkmlcgaaaImplStable
import Derived.Test.YtbfeokhkmlcgaaaLRank
import Derived.Test.YtbfeokhkmlcgaaaPlaces
import Derived.Test.YtbfeokhkmlcgaaaJoined
import Derived.Test.YtbfeokhkmlcgaaaSame
import Derived.Test.YtbfeokhkmlcgaaaTwo
import Derived.Test.YtbfeokhkmlcgaaaSteps
import Derived.Test.YtbfeokhkmlcgaaaOpen
import Derived.Deep.RegionHeld3
namespace Go.Proofs.Ytbfeokhkmlcgaaa
open Go.RowKit
attribute [local go_sem ↓] Go.wp_at_zero Go.wp_at_succ

/-- Of the first k items those with a smaller rank, with the same, with a greater one. -/
def qL (R : List Int) (c : Int) (l : List (Int × Int)) (k : Nat) : List (Int × Int) := (l.take k).filter fun z => decide (rJ R z < c)
def qE (R : List Int) (c : Int) (l : List (Int × Int)) (k : Nat) : List (Int × Int) := (l.take k).filter fun z => rJ R z == c
def qM (R : List Int) (c : Int) (l : List (Int × Int)) (k : Nat) : List (Int × Int) := (l.take k).filter fun z => decide (c < rJ R z)
theorem q_lt (R : List Int) (c : Int) (l : List (Int × Int)) (k : Nat) (h : k < l.length) (hv : rk R (it l k).1 < c) : qL R c l (k + 1) = qL R c l k ++ [it l k] ∧ qE R c l (k + 1) = qE R c l k ∧ qM R c l (k + 1) = qM R c l k := by
  unfold qL qE qM
  rw [it_snoc l k h]
  have e1 : decide (rJ R (it l k) < c) = true := by rw [decide_eq_true_eq]; exact hv
  have e2 : (rJ R (it l k) == c) = false := by rw [beq_eq_false_iff_ne]; unfold rJ; omega
  have e3 : decide (c < rJ R (it l k)) = false := by rw [decide_eq_false_iff_not]; unfold rJ; omega
  simp [List.filter_append, e1, e2, e3]
theorem q_eq (R : List Int) (c : Int) (l : List (Int × Int)) (k : Nat) (h : k < l.length) (hv : rk R (it l k).1 = c) : qL R c l (k + 1) = qL R c l k ∧ qE R c l (k + 1) = qE R c l k ++ [it l k] ∧ qM R c l (k + 1) = qM R c l k := by
  unfold qL qE qM
  rw [it_snoc l k h]
  have e1 : decide (rJ R (it l k) < c) = false := by rw [decide_eq_false_iff_not]; unfold rJ; omega
  have e2 : (rJ R (it l k) == c) = true := by rw [beq_iff_eq]; exact hv
  have e3 : decide (c < rJ R (it l k)) = false := by rw [decide_eq_false_iff_not]; unfold rJ; omega
  simp [List.filter_append, e1, e2, e3]
theorem q_gt (R : List Int) (c : Int) (l : List (Int × Int)) (k : Nat) (h : k < l.length) (hv : c < rk R (it l k).1) : qL R c l (k + 1) = qL R c l k ∧ qE R c l (k + 1) = qE R c l k ∧ qM R c l (k + 1) = qM R c l k ++ [it l k] := by
  unfold qL qE qM
  rw [it_snoc l k h]
  have e1 : decide (rJ R (it l k) < c) = false := by rw [decide_eq_false_iff_not]; unfold rJ; omega
  have e2 : (rJ R (it l k) == c) = false := by rw [beq_eq_false_iff_ne]; unfold rJ; omega
  have e3 : decide (c < rJ R (it l k)) = true := by rw [decide_eq_true_eq]; exact hv
  simp [List.filter_append, e1, e2, e3]
theorem q_len (R : List Int) (c : Int) (l : List (Int × Int)) (k : Nat) (h : k ≤ l.length) : (qL R c l k).length + (qE R c l k).length + (qM R c l k).length = k := by
  induction k with
  | zero => simp [qL, qE, qM]
  | succ k ih =>
    have := ih (by omega)
    rcases Int.lt_trichotomy (rk R (it l k).1) c with hv | hv | hv
    · obtain ⟨h1, h2, h3⟩ := q_lt R c l k (by omega) hv; rw [h1, h2, h3]; simp; omega
    · obtain ⟨h1, h2, h3⟩ := q_eq R c l k (by omega) hv; rw [h1, h2, h3]; simp; omega
    · obtain ⟨h1, h2, h3⟩ := q_gt R c l k (by omega) hv; rw [h1, h2, h3]; simp; omega
theorem q_all (R : List Int) (c : Int) (l : List (Int × Int)) (n : Nat) (h : l.length = n) : stab (rJ R) (qL R c l n) ++ qE R c l n ++ stab (rJ R) (qM R c l n) = stab (rJ R) l := by
  unfold qL qE qM
  rw [List.take_of_length_le (by omega), List.append_assoc]
  exact (stab_quick (rJ R) c l).symm

/-- Three rows of the call's own, apart. -/
def Three (W : World) (base : Nat) (u v x : Value) (X Y Z : List (Int × Int)) : Prop :=
  W.ownsRow base 28 2 u X.length (cI X) ∧ W.ownsRow base 28 2 v Y.length (cI Y) ∧ W.ownsRow base 28 2 x Z.length (cI Z) ∧ Apt u v ∧ Apt u x ∧ Apt v x
theorem Three.on {W W' : World} {base : Nat} {u v x : Value} {X Y Z : List (Int × Int)} (h : Three W base u v x X Y Z) (hb : Below W.heap.size W W') : Three W' base u v x X Y Z :=
  ⟨own_on h.1 hb, own_on h.2.1 hb, own_on h.2.2.1 hb, h.2.2.2⟩

theorem own_len {w : World} {base e size n m : Nat} {A : Option Addr} {c : Nat} {xs : List Value} (h : w.ownsRow base e size (.slice A n c) n xs) (hm : n = m) : w.ownsRow base e size (.slice A m c) m xs := by subst hm; exact h
theorem Three.app1 {W w' : World} {base g cap ca : Nat} {A : Option Addr} {v x : Value} {X Y Z : List (Int × Int)} {y : Int × Int} (h : Three W base (.slice A X.length ca) v x X Y Z) (hL : Lies W base 28 2 A X.length ca 1 (cI X ++ (#[.int .i64 y.1, .int .i64 y.2] : Array Value).toList) g cap w') :
    Three w' base (.slice (some ⟨g, 0, none⟩) (X ++ [y]).length cap) v x (X ++ [y]) Y Z := by
  have k2 := Lies.other hL h.2.1 h.2.2.2.1.symm
  have k3 := Lies.other hL h.2.2.1 h.2.2.2.2.1.symm
  have k1 := hL.1
  rw [cI_snoc] at k1
  have e : X.length + 1 = (X ++ [y]).length := by simp
  rw [e] at k1 k2 k3
  exact ⟨k1, k2.1, k3.1, k2.2.symm, k3.2.symm, h.2.2.2.2.2⟩
theorem Three.app2 {W w' : World} {base g cap ca : Nat} {A : Option Addr} {u x : Value} {X Y Z : List (Int × Int)} {y : Int × Int} (h : Three W base u (.slice A Y.length ca) x X Y Z) (hL : Lies W base 28 2 A Y.length ca 1 (cI Y ++ (#[.int .i64 y.1, .int .i64 y.2] : Array Value).toList) g cap w') :
    Three w' base u (.slice (some ⟨g, 0, none⟩) (Y ++ [y]).length cap) x X (Y ++ [y]) Z := by
  have k2 := Lies.other hL h.1 h.2.2.2.1
  have k3 := Lies.other hL h.2.2.1 h.2.2.2.2.2.symm
  have k1 := hL.1
  rw [cI_snoc] at k1
  have e : Y.length + 1 = (Y ++ [y]).length := by simp
  rw [e] at k1 k2 k3
  exact ⟨k2.1, k1, k3.1, k2.2, h.2.2.2.2.1, k3.2.symm⟩
theorem Three.app3 {W w' : World} {base g cap ca : Nat} {A : Option Addr} {u v : Value} {X Y Z : List (Int × Int)} {y : Int × Int} (h : Three W base u v (.slice A Z.length ca) X Y Z) (hL : Lies W base 28 2 A Z.length ca 1 (cI Z ++ (#[.int .i64 y.1, .int .i64 y.2] : Array Value).toList) g cap w') :
    Three w' base u v (.slice (some ⟨g, 0, none⟩) (Z ++ [y]).length cap) X Y (Z ++ [y]) := by
  have k2 := Lies.other hL h.1 h.2.2.2.2.1
  have k3 := Lies.other hL h.2.1 h.2.2.2.2.2
  have k1 := hL.1
  rw [cI_snoc] at k1
  have e : Z.length + 1 = (Z ++ [y]).length := by simp
  rw [e] at k1 k2 k3
  exact ⟨k2.1, k3.1, k1, h.2.2.2.1, k2.2, k3.2⟩

set_option linter.unusedSimpArgs false in
set_option maxHeartbeats 4000000 in
theorem wFnQuick (A0 : Option Addr) (n0 c0 : Nat) (l0 : List (Int × Int)) (x1 : Int × Int) (A2 : Option Addr) (n2 c2 : Nat) (R : List Int) (w : World)
    (r0 : Rd w w.heap.size 2 A0 n0 (cI l0)) (_z0 : ∀ y ∈ l0, InI y.1 ∧ InI y.2) (le0 : n0 ≤ c0) (b0 : c0 * 16 ≤ 140737488351232) (_i1 : InI x1.1 ∧ InI x1.2)
    (r2 : Rd w w.heap.size 1 A2 n2 (cZ R)) (_z2 : ∀ y ∈ R, InI y) (_le2 : n2 ≤ c2) (_b2 : c2 * 8 ≤ 140737488351232) :
    Calls Try.prog 8 #[.slice A0 n0 c0, .agg #[.int .i64 x1.1, .int .i64 x1.2], .agg #[.slice A2 n2 c2]] w fun e w' => e = .returned (.bool true) ∧ Below w.heap.size w w' := by
  clear _z0 _z2 _le2 _b2 _i1
  have hn : n0 * 16 ≤ 140737488351232 := by omega
  have HL := Lib.hid (rdI_len r0)
  have hb0 := below_alloc2 w (.cells #[.int .i64 x1.1, .int .i64 x1.2] 28) (.cells #[.slice A2 n2 c2] 25)
  have d0 : ((w.alloc (.cells #[.int .i64 x1.1, .int .i64 x1.2] 28)).alloc (.cells #[.slice A2 n2 c2] 25)).cell? ⟨w.heap.size, 0, none⟩ = some (.int .i64 x1.1) := by simp [go_sem]
  have d1 : ((w.alloc (.cells #[.int .i64 x1.1, .int .i64 x1.2] 28)).alloc (.cells #[.slice A2 n2 c2] 25)).cell? ⟨w.heap.size, 1, none⟩ = some (.int .i64 x1.2) := by simp [go_sem]
  have d2 : ((w.alloc (.cells #[.int .i64 x1.1, .int .i64 x1.2] 28)).alloc (.cells #[.slice A2 n2 c2] 25)).cell? ⟨w.heap.size + 1, 0, none⟩ = some (.slice A2 n2 c2) := by simp [go_sem]
  have ra := Lib.hid (r0.on hb0)
  have rr := Lib.hid (r2.on hb0)
  clear r0 r2 le0 b0
  go_enter Try.func8, Try.ntmps8
  go_wp2
  generalize (w.alloc (.cells #[.int .i64 x1.1, .int .i64 x1.2] 28)).alloc (.cells #[.slice A2 n2 c2] 25) = W at *
  obtain ⟨C, hC⟩ : ∃ C, C = rk R x1.1 := ⟨_, rfl⟩
  have HC := Lib.hid hC
  clear hC
  go_loopw [7, 8, 9, 14] (fun u v x s wr => ∃ (i : Nat) (A B D : Option Addr) (ca cb cd : Nat), i ≤ n0 ∧ s = .int .i64 i ∧ u = .slice A (qL R C l0 i).length ca ∧ v = .slice B (qE R C l0 i).length cb ∧ x = .slice D (qM R C l0 i).length cd ∧
    Hid (Three wr W.heap.size (.slice A (qL R C l0 i).length ca) (.slice B (qE R C l0 i).length cb) (.slice D (qM R C l0 i).length cd) (qL R C l0 i) (qE R C l0 i) (qM R C l0 i)) ∧ Below W.heap.size W wr) (fun _ _ _ s _ => n0 - (intOf s).toNat)
  case atStart => exact ⟨0, none, none, none, 0, 0, 0, Nat.zero_le _, rfl, rfl, rfl, rfl, ⟨own_nil _ _ _ _, own_nil _ _ _ _, own_nil _ _ _ _, Apt.nil _, Apt.nil _, Apt.nil _⟩, Below.refl _ _⟩
  case round =>
    obtain ⟨i, A, B, D, ca, cb, cd, hi, rfl, rfl, rfl, rfl, H3, hbel⟩ := hrel
    have hql := q_len R C l0 i (by rw [HL.out]; exact hi)
    by_cases hlt : i < n0
    · obtain ⟨b, off, rfl, _, hc1, hc2⟩ := rdI_at (k := i) (ra.out.on hbel) hlt
      have him : i < l0.length := by rw [HL.out]; exact hlt
      have Q1 := Lib.hid (q_lt R C l0 i him)
      have Q2 := Lib.hid (q_eq R C l0 i him)
      have Q3 := Lib.hid (q_gt R C l0 i him)
      clear him
      obtain ⟨⟨yk, yt⟩, hy⟩ : ∃ y, y = it l0 i := ⟨_, rfl⟩
      rw [← hy] at hc1 hc2 Q1 Q2 Q3
      clear hy
      obtain ⟨X, hX⟩ : ∃ X, X = qL R C l0 i := ⟨_, rfl⟩
      obtain ⟨Y, hY⟩ : ∃ Y, Y = qE R C l0 i := ⟨_, rfl⟩
      obtain ⟨Z, hZ⟩ : ∃ Z, Z = qM R C l0 i := ⟨_, rfl⟩
      rw [← hX, ← hY, ← hZ] at H3 Q1 Q2 Q3 hql
      rw [← hX, ← hY, ← hZ]
      clear hX hY hZ
      have hbx := hbel.alloc hbel.size (.cells #[.int .i64 yk, .int .i64 yt] 28)
      have t0 := cell_on hbx d0
      have t1 := cell_on hbx d1
      have t2 := cell_on hbx d2
      have y0 : (wr.alloc (.cells #[.int .i64 yk, .int .i64 yt] 28)).cell? ⟨wr.heap.size, 0, none⟩ = some (.int .i64 yk) := by simp [go_sem]
      have y1 : (wr.alloc (.cells #[.int .i64 yk, .int .i64 yt] 28)).cell? ⟨wr.heap.size, 1, none⟩ = some (.int .i64 yt) := by simp [go_sem]
      have rq := Lib.hid (rr.out.on hbx)
      have H4 := Lib.hid (H3.out.on (below_alloc1 wr (.cells #[.int .i64 yk, .int .i64 yt] 28)))
      clear H3
      obtain ⟨xk, xt⟩ := x1
      have HC' : Hid (C = rk R xk) := HC.out
      go_wp2_with fail
      generalize wr.alloc (.cells #[.int .i64 yk, .int .i64 yt] 28) = W2 at hbx t0 t1 t2 y0 y1 rq H4 ⊢
      have rqW2 := rq
      clear rq
      go_region_held3 (fun w' => w'.cell? ⟨w.heap.size, 0, none⟩ = some (.int .i64 xk) ∧ w'.cell? ⟨w.heap.size, 1, none⟩ = some (.int .i64 xt) ∧ w'.cell? ⟨w.heap.size + 1, 0, none⟩ = some (.slice A2 n2 c2) ∧ w'.cell? ⟨wr.heap.size, 0, none⟩ = some (.int .i64 yk) ∧ w'.cell? ⟨wr.heap.size, 1, none⟩ = some (.int .i64 yt) ∧ Below W2.heap.size W2 w')
        (first | (exact ⟨t0, t1, t2, y0, y1, (Below.refl _ _).drew⟩) | (go_split_ands; exact ⟨nx_cell hbc (by assumption), nx_cell hbc (by assumption), nx_cell hbc (by assumption), nx_cell hbc (by assumption), nx_cell hbc (by assumption), nx_step (by assumption) hbc⟩))
        (first | (go_at_call 18; go_split_ands; refine (lrank_any R A2 n2 c2 _ _ _ (rqW2.out.on (by assumption))).mono ?_; rintro e w5 ⟨rfl, hbc'⟩; have hbc := nx hbc'; clear hbc'))
      have blw5 : Below W2.heap.size W2 w5 := by go_split_ands; assumption
      have w5x0 : w5.cell? ⟨w.heap.size, 0, none⟩ = some (.int .i64 xk) := by go_split_ands; assumption
      have w5x1 : w5.cell? ⟨w.heap.size, 1, none⟩ = some (.int .i64 xt) := by go_split_ands; assumption
      have w5x2 : w5.cell? ⟨w.heap.size + 1, 0, none⟩ = some (.slice A2 n2 c2) := by go_split_ands; assumption
      have w5y0 : w5.cell? ⟨wr.heap.size, 0, none⟩ = some (.int .i64 yk) := by go_split_ands; assumption
      have w5y1 : w5.cell? ⟨wr.heap.size, 1, none⟩ = some (.int .i64 yt) := by go_split_ands; assumption
      by_cases k1 : rk R yk < rk R xk
      · have hbz := below_step hbx blw5
        have H5 := Lib.hid (H4.out.on blw5)
        clear H4
        go_wp2_with (at_builtin; refine wpList_app eI rfl _ _ rfl W.heap.size w5 A X.length ca _ rfl H5.out.1 #[.int .i64 yk, .int .i64 yt] rfl rfl (one_two _ _ _ _) (by omega) (by unfold maxLen; omega) hbz.size ?_; rintro g cap w7 hL7; have H7 := Lib.hid (Three.app1 (y := (yk, yt)) H5.out hL7); have b7 := hbz.trans hL7.2.1; clear hL7)
        clear H5
        obtain ⟨h1, h2, h3⟩ := Q1.out (by rw [HC'.out]; exact k1)
        have K := Lib.hid (And.intro h1 (And.intro h2 h3))
        clear h1 h2 h3
        go_roundw
        case rel => exact ⟨i + 1, some ⟨g, 0, none⟩, B, D, cap, cb, cd, by omega, by go_num, (by rw [K.out.1] <;> simp), (by rw [K.out.2.1] <;> simp), (by rw [K.out.2.2] <;> simp), by rw [K.out.1, K.out.2.1, K.out.2.2]; exact H7, b7⟩
        case measure => simp [intOf]; omega
      · have k1' : decide (rk R yk < rk R xk) = false := by simpa using k1
        have rqw5 := Lib.hid (rqW2.out.on blw5)
        go_wp2_with fail
        go_region_held3 (fun w' => w'.cell? ⟨w.heap.size, 0, none⟩ = some (.int .i64 xk) ∧ w'.cell? ⟨w.heap.size, 1, none⟩ = some (.int .i64 xt) ∧ w'.cell? ⟨w.heap.size + 1, 0, none⟩ = some (.slice A2 n2 c2) ∧ w'.cell? ⟨wr.heap.size, 0, none⟩ = some (.int .i64 yk) ∧ w'.cell? ⟨wr.heap.size, 1, none⟩ = some (.int .i64 yt) ∧ Below w5.heap.size w5 w')
          (first | (exact ⟨w5x0, w5x1, w5x2, w5y0, w5y1, (Below.refl _ _).drew⟩) | (go_split_ands; exact ⟨nx_cell hbc (by assumption), nx_cell hbc (by assumption), nx_cell hbc (by assumption), nx_cell hbc (by assumption), nx_cell hbc (by assumption), nx_step (by assumption) hbc⟩))
          (first | (go_at_call 18; go_split_ands; refine (lrank_any R A2 n2 c2 _ _ _ (rqw5.out.on (by assumption))).mono ?_; rintro e w6 ⟨rfl, hbc'⟩; have hbc := nx hbc'; clear hbc'))
        have blw6 : Below w5.heap.size w5 w6 := by go_split_ands; assumption
        have w6x0 : w6.cell? ⟨w.heap.size, 0, none⟩ = some (.int .i64 xk) := by go_split_ands; assumption
        have w6x1 : w6.cell? ⟨w.heap.size, 1, none⟩ = some (.int .i64 xt) := by go_split_ands; assumption
        have w6x2 : w6.cell? ⟨w.heap.size + 1, 0, none⟩ = some (.slice A2 n2 c2) := by go_split_ands; assumption
        have w6y0 : w6.cell? ⟨wr.heap.size, 0, none⟩ = some (.int .i64 yk) := by go_split_ands; assumption
        have w6y1 : w6.cell? ⟨wr.heap.size, 1, none⟩ = some (.int .i64 yt) := by go_split_ands; assumption
        by_cases k2 : rk R xk < rk R yk
        · have hbz := below_step (below_step hbx blw5) blw6
          have H5 := Lib.hid (H4.out.on (below_step blw5 blw6))
          clear H4
          go_wp2_with (at_builtin; refine wpList_app eI rfl _ _ rfl W.heap.size w6 D Z.length cd _ rfl H5.out.2.2.1 #[.int .i64 yk, .int .i64 yt] rfl rfl (one_two _ _ _ _) (by omega) (by unfold maxLen; omega) hbz.size ?_; rintro g cap w7 hL7; have H7 := Lib.hid (Three.app3 (y := (yk, yt)) H5.out hL7); have b7 := hbz.trans hL7.2.1; clear hL7)
          clear H5
          obtain ⟨h1, h2, h3⟩ := Q3.out (by rw [HC'.out]; exact k2)
          have K := Lib.hid (And.intro h1 (And.intro h2 h3))
          clear h1 h2 h3
          go_roundw
          case rel => exact ⟨i + 1, A, B, some ⟨g, 0, none⟩, ca, cb, cap, by omega, by go_num, (by rw [K.out.1] <;> simp), (by rw [K.out.2.1] <;> simp), (by rw [K.out.2.2] <;> simp), by rw [K.out.1, K.out.2.1, K.out.2.2]; exact H7, b7⟩
          case measure => simp [intOf]; omega
        · have k2' : decide (rk R xk < rk R yk) = false := by simpa using k2
          have hbz := below_step (below_step hbx blw5) blw6
          have H5 := Lib.hid (H4.out.on (below_step blw5 blw6))
          clear H4
          go_wp2_with (at_builtin; refine wpList_app eI rfl _ _ rfl W.heap.size w6 B Y.length cb _ rfl H5.out.2.1 #[.int .i64 yk, .int .i64 yt] rfl rfl (one_two _ _ _ _) (by omega) (by unfold maxLen; omega) hbz.size ?_; rintro g cap w7 hL7; have H7 := Lib.hid (Three.app2 (y := (yk, yt)) H5.out hL7); have b7 := hbz.trans hL7.2.1; clear hL7)
          clear H5
          obtain ⟨h1, h2, h3⟩ := Q2.out (by rw [HC'.out]; show rk R yk = rk R xk; omega)
          have K := Lib.hid (And.intro h1 (And.intro h2 h3))
          clear h1 h2 h3
          go_roundw
          case rel => exact ⟨i + 1, A, some ⟨g, 0, none⟩, D, ca, cap, cd, by omega, by go_num, (by rw [K.out.1] <;> simp), (by rw [K.out.2.1] <;> simp), (by rw [K.out.2.2] <;> simp), by rw [K.out.1, K.out.2.1, K.out.2.2]; exact H7, b7⟩
          case measure => simp [intOf]; omega
    · obtain rfl : i = n0 := by omega
      have HA := Lib.hid (q_all R C l0 i HL.out)
      have HN := Lib.hid hql
      obtain ⟨X, hX⟩ : ∃ X, X = qL R C l0 i := ⟨_, rfl⟩
      obtain ⟨Y, hY⟩ : ∃ Y, Y = qE R C l0 i := ⟨_, rfl⟩
      obtain ⟨Z, hZ⟩ : ∃ Z, Z = qM R C l0 i := ⟨_, rfl⟩
      rw [← hX, ← hY, ← hZ] at H3 HA HN hql
      rw [← hX, ← hY, ← hZ]
      clear hX hY hZ
      have rX := Lib.hid (Rd.of_own H3.out.1)
      have rY := Lib.hid (Rd.of_own H3.out.2.1)
      have rZ := Lib.hid (Rd.of_own H3.out.2.2.1)
      have n1 : X.length * 16 ≤ 140737488355328 := by omega
      have n3 : Z.length * 16 ≤ 140737488355328 := by omega
      have n4 : (X.length + Y.length) * 16 ≤ 140737488355328 := by omega
      have n5 : (X.length + Y.length + Z.length) * 16 ≤ 140737488355328 := by omega
      have n6 : i ≤ 9223372036854775806 := by omega
      have n7 : i * 16 ≤ 140737488355328 := by omega
      have e2 := cell_on hbel d2
      have bW := below_step hb0 hbel
      have rr1 := Lib.hid (rr.out.on hbel)
      have ra1 := Lib.hid (ra.out.on hbel)
      clear hbel H3 hql
      go_wp2_with fail
      go_region_held3 (fun w' => w'.cell? ⟨w.heap.size + 1, 0, none⟩ = some (.slice A2 n2 c2) ∧ Below wr.heap.size wr w')
        (first | (exact ⟨e2, (Below.refl _ _).drew⟩) | (go_split_ands; exact ⟨nx_cell hbc (by assumption), nx_step (by assumption) hbc⟩))
        (first
          | (go_at_call 21; go_split_ands; ((with_reducible refine (Stable_any R A2 n2 c2 l0 A0 i c0 _ (rr1.out.on (by assumption)) (ra1.out.on (by assumption)) n7).mono ?_); rintro e w3 ⟨A3, c3, rfl, o3, hbc'⟩); have r3 := Lib.hid (Rd.of_own o3); clear o3; have hbc := nx hbc'; clear hbc')
          | (go_at_call 21; go_split_ands; ((with_reducible refine (Stable_any R A2 n2 c2 X A X.length ca _ (rr1.out.on (by assumption)) (rX.out.on (by assumption)) n1).mono ?_); rintro e w4 ⟨A4, c4, rfl, o4, hbc'⟩); have r4 := Lib.hid (Rd.of_own o4); clear o4; have hbc := nx hbc'; clear hbc')
          | (go_at_call 21; go_split_ands; ((with_reducible refine (Stable_any R A2 n2 c2 Z D Z.length cd _ (rr1.out.on (by assumption)) (rZ.out.on (by assumption)) n3).mono ?_); rintro e w6 ⟨A6, c6, rfl, o6, hbc'⟩); have r6 := Lib.hid (Rd.of_own o6); clear o6; have hbc := nx hbc'; clear hbc')
          | (go_at_call 19; go_split_ands; ((with_reducible refine (joined_items (stab (rJ R) X) Y A4 B X.length Y.length c4 cb _ (by refine Rd.on (r4.out) ?_; repeat (first | exact Below.refl _ _ | refine nx_step ?_ (by with_reducible assumption))) (rY.out.on (by assumption)) n4).mono ?_); rintro e w5 ⟨A5, c5, rfl, o5, hbc'⟩); have r5 := Lib.hid (Rd.of_own o5); clear o5; have hbc := nx hbc'; clear hbc')
          | (go_at_call 19; go_split_ands; ((with_reducible refine (joined_items (stab (rJ R) X ++ Y) (stab (rJ R) Z) A5 A6 (X.length + Y.length) Z.length c5 c6 _ (by refine Rd.on (r5.out) ?_; repeat (first | exact Below.refl _ _ | refine nx_step ?_ (by with_reducible assumption))) (by refine Rd.on (r6.out) ?_; repeat (first | exact Below.refl _ _ | refine nx_step ?_ (by with_reducible assumption))) n5).mono ?_); rintro e w7 ⟨A7, c7, rfl, o7, hbc'⟩); have r7 := Lib.hid (Rd.of_own o7); rw [HN.out, HA.out] at r7; rw [HN.out]; clear o7; have hbc := nx hbc'; clear hbc')
          | (go_at_call 20; go_split_ands; refine (same_items (stab (rJ R) l0) A3 A7 i c3 c7 _ (by refine Rd.on (r3.out) ?_; repeat (first | exact Below.refl _ _ | refine nx_step ?_ (by with_reducible assumption))) (by refine Rd.on (r7.out) ?_; repeat (first | exact Below.refl _ _ | refine nx_step ?_ (by with_reducible assumption))) n6).mono ?_; rintro e w8 ⟨rfl, hbc'⟩; have hbc := nx hbc'; clear hbc'))
      all_goals
        go_wp2
        go_ret
        exact ⟨rfl, below_step bW (by go_split_ands; assumption)⟩
end Go.Proofs.Ytbfeokhkmlcgaaa

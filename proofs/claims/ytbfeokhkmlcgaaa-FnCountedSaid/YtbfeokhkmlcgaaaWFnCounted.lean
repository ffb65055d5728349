/- FnCounted returns true: for every list and size. -/
import Derived.Test.YtbfeokhkmlcgaaaImplStable
import Derived.Test.YtbfeokhkmlcgaaaLRank
import Derived.Test.YtbfeokhkmlcgaaaPlaces
import Derived.Test.YtbfeokhkmlcgaaaSame
import Derived.Test.YtbfeokhkmlcgaaaTwo
import Derived.Test.YtbfeokhkmlcgaaaSteps
import Derived.Test.YtbfeokhkmlcgaaaOpen
import Derived.Deep.RegionHeld3
import Derived.IntWalk
namespace Go.Proofs.Ytbfeokhkmlcgaaa
open Go.RowKit
attribute [local go_sem ↓] Go.wp_at_zero Go.wp_at_succ
theorem cZ_snoc (l : List Int) (x : Int) : cZ l ++ (#[Value.int .i64 x] : Array Value).toList = cZ (l ++ [x]) := by simp [cZ]
/-- The ranks of the law. -/
def sevens (s k : Nat) : List Int := (List.range k).map fun j => ((j * 7 % s : Nat) : Int)
theorem sevens_succ (s k : Nat) : sevens s (k + 1) = sevens s k ++ [((k * 7 % s : Nat) : Int)] := by unfold sevens; rw [List.range_succ, List.map_append]; rfl
theorem sevens_rk (s k : Nat) (hs : 0 < s) (x : Int) : 0 ≤ rk (sevens s k) x ∧ rk (sevens s k) x < s := by
  unfold rk
  split
  · omega
  · unfold sevens
    rw [List.getElem?_map]
    cases h : (List.range k)[x.toNat]? with
    | none => simp; omega
    | some j =>
      have := Nat.mod_lt (j * 7) hs
      simp only [Option.map_some, Option.getD_some]
      omega
theorem filter_snoc (R : List Int) (l : List (Int × Int)) (k : Nat) (c : Int) (h : k < l.length) : (l.take (k + 1)).filter (fun z => rJ R z == c) = (l.take k).filter (fun z => rJ R z == c) ++ if rk R (it l k).1 = c then [it l k] else [] := by
  rw [it_snoc l k h, List.filter_append]
  congr 1
  by_cases hc : rk R (it l k).1 = c
  · rw [if_pos hc]
    have : (rJ R (it l k) == c) = true := by rw [beq_iff_eq]; exact hc
    simp [this]
  · rw [if_neg hc]
    have : (rJ R (it l k) == c) = false := by rw [beq_eq_false_iff_ne]; exact hc
    simp [this]
theorem byRank_len (r : Int × Int → Int) (l : List (Int × Int)) (h0 : ∀ z ∈ l, 0 ≤ r z) (k : Nat) : (byRank r l k).length ≤ l.length := by
  rw [← byRank_stab r l h0 k, stab_len]
  exact List.length_filter_le _ _
/-- What has been gathered behind r ranks and i items of the next one. -/
def gath (R : List Int) (l : List (Int × Int)) (r i : Nat) : List (Int × Int) := byRank (rJ R) l r ++ (l.take i).filter (fun z => rJ R z == (r : Int))
theorem gath_le (R : List Int) (l : List (Int × Int)) (r i : Nat) (h0 : ∀ z ∈ l, 0 ≤ rJ R z) : (gath R l r i).length ≤ l.length := by
  have h1 := byRank_len (rJ R) l h0 (r + 1)
  rw [byRank_succ, List.length_append] at h1
  unfold gath
  rw [List.length_append]
  have h2 : ((l.take i).filter (fun z => rJ R z == (r : Int))).length ≤ (l.filter (fun z => rJ R z == (r : Int))).length := ((List.take_sublist i l).filter _).length_le
  omega
theorem gath_zero (R : List Int) (l : List (Int × Int)) (r : Nat) : gath R l r 0 = byRank (rJ R) l r := by simp [gath]
theorem gath_all (R : List Int) (l : List (Int × Int)) (r n : Nat) (h : l.length = n) : gath R l r n = byRank (rJ R) l (r + 1) := by
  rw [byRank_succ]; unfold gath; rw [List.take_of_length_le (by omega)]
theorem gath_snoc (R : List Int) (l : List (Int × Int)) (r i : Nat) (h : i < l.length) : gath R l r (i + 1) = gath R l r i ++ if rk R (it l i).1 = (r : Int) then [it l i] else [] := by
  unfold gath; rw [filter_snoc R l i _ h, List.append_assoc]

set_option linter.unusedSimpArgs false in
set_option maxHeartbeats 4000000 in
theorem wFnCounted (A0 : Option Addr) (n0 c0 : Nat) (l0 : List (Int × Int)) (a1 : Int) (w : World)
    (r0 : Rd w w.heap.size 2 A0 n0 (cI l0)) (_z0 : ∀ y ∈ l0, InI y.1 ∧ InI y.2) (le0 : n0 ≤ c0) (b0 : c0 * 16 ≤ 140737488351232) (_i1 : InI a1) :
    Calls Try.prog 7 #[.slice A0 n0 c0, .int .i64 a1] w fun e w' => e = .returned (.bool true) ∧ Below w.heap.size w w' := by
  clear _z0 _i1
  have hn : n0 * 16 ≤ 140737488351232 := by omega
  have HL := Lib.hid (rdI_len r0)
  by_cases h1 : a1 < 1
  · clear r0 HL
    go_enter Try.func7, Try.ntmps7
    go_wp2
    go_ret
    exact ⟨rfl, Below.refl _ _⟩
  by_cases h2 : 1000 < a1
  · have h1' : decide (a1 < 1) = false := by simpa using h1
    clear r0 HL
    go_enter Try.func7, Try.ntmps7
    go_wp2
    go_ret
    exact ⟨rfl, Below.refl _ _⟩
  obtain ⟨s, rfl⟩ : ∃ s : Nat, a1 = s := ⟨a1.toNat, by omega⟩
  have hs : 1 ≤ s := by omega
  have hs2 : s ≤ 1000 := by omega
  have g1 : ¬ (s : Int) < 1 := by omega
  have g2 : ¬ 1000 < (s : Int) := by omega
  have k1 : decide ((s : Int) < 1) = false := by simpa using g1
  have k2 : decide (1000 < (s : Int)) = false := by simpa using g2
  clear h1 h2
  go_enter Try.func7, Try.ntmps7
  go_wp2_with fail
  clear g1 g2 k1 k2
  have ra := Lib.hid (r0.on (below_alloc1 w (.cells #[.slice none 0 0] 25)))
  obtain ⟨n, hne⟩ : ∃ n, n = 3 * s := ⟨_, rfl⟩
  have h3 : 3 * (s : Int) = (n : Int) := by omega
  rw [h3]
  have hnb : n ≤ 3000 := by omega
  clear h3 hne
  go_loopw [19] (fun t wr => ∃ (k : Nat) (A : Option Addr) (c : Nat), k ≤ n ∧ t = .int .i64 k ∧ wr.cell? ⟨w.heap.size, 0, none⟩ = some (.slice A k c) ∧ wr.frozen? ⟨w.heap.size, 0, none⟩ = false ∧
    wr.ownsRow (w.heap.size + 1) 3 1 (.slice A k c) k (cZ (sevens s k)) ∧ Below w.heap.size w wr ∧ w.heap.size + 1 ≤ wr.heap.size) (fun t _ => n - (intOf t).toNat)
  case atStart => exact ⟨0, none, 0, Nat.zero_le _, rfl, by simp [go_sem], by simp [go_sem], by simpa [cZ, sevens] using own_nil _ _ _ _, below_alloc1 w _, by simp⟩
  case round =>
    obtain ⟨k, A, c, hk, rfl, hq, hf, hown, hbel, hsz⟩ := hrel
    by_cases hlt : k < n
    · have T := Lib.hid (sevens_succ s k)
      have hu0 : ¬ s = 0 := by omega
      obtain ⟨d, hd⟩ : ∃ d, d = k * 7 := ⟨_, rfl⟩
      have hd1 : (k : Int) * 7 = (d : Int) := by omega
      have hdk : d ≤ 21000 := by omega
      rw [← hd] at T
      clear hd
      obtain ⟨f, hf'⟩ : ∃ f, f = d % s := ⟨_, rfl⟩
      have hfd : f ≤ d := by rw [hf']; exact Nat.mod_le _ _
      have hf1 : (d : Int) % (s : Int) = (f : Int) := by rw [hf']; exact (Int.natCast_emod _ _).symm
      have hf2 : (d : Int).tmod (s : Int) = (f : Int) := by rw [Int.tmod_eq_emod_of_nonneg (Int.natCast_nonneg _)]; exact hf1
      rw [← hf'] at T
      clear hf'
      have w1 : IntKind.i64.wrap (d : Int) = (d : Int) := IntWalk.i64_in _ (by omega)
      have w2 : IntKind.i64.wrap (f : Int) = (f : Int) := IntWalk.i64_in _ (by omega)
      have hqa : (wr.alloc (.cells #[.int .i64 (f : Int)] 3)).cell? ⟨w.heap.size, 0, none⟩ = some (.slice A k c) := (World.cell?_alloc_lt _ _ _ (by show w.heap.size < wr.heap.size; omega)).trans hq
      go_wp2_with fail
      refine wp_region_held_drew (S := fun _ => True) (by kernel_rfl) trivial (fun hHeld => ?_)
      ((refine wpAnyH_take (i := 0) (v := ?_) rfl (by kernel_rfl) (by kernel_rfl) (by kernel_rfl) (fun _ _ _ h => h) (Or.inl ⟨by kernel_rfl, ?_⟩) (by assumption) ?_; rotate_left; (focus ((try simp only [List.getElem_toArray, List.getElem_cons_zero, List.getElem_cons_succ]); intro w hSw; (try dsimp only at hSw); go_simp; all_goals (with_reducible rfl))); (try simp only [List.getElem_toArray, List.getElem_cons_zero, List.getElem_cons_succ, Act.put, List.setIfInBounds_toArray, List.set_cons_zero, List.set_cons_succ])); (refine wpAnyH_take (i := 2) (v := ?_) rfl (by kernel_rfl) (by kernel_rfl) (by kernel_rfl) (fun _ _ _ h => h) (Or.inl ⟨by kernel_rfl, ?_⟩) (by assumption) ?_; rotate_left; (focus ((try simp only [List.getElem_toArray, List.getElem_cons_zero, List.getElem_cons_succ]); intro w hSw; (try dsimp only at hSw); go_simp; all_goals (with_reducible rfl))); (try simp only [List.getElem_toArray, List.getElem_cons_zero, List.getElem_cons_succ, Act.put, List.setIfInBounds_toArray, List.set_cons_zero, List.set_cons_succ])); (refine wpAnyH_take (i := 3) (v := ?_) rfl (by kernel_rfl) (by kernel_rfl) (by kernel_rfl) (fun _ _ _ h => h) (Or.inl ⟨by kernel_rfl, ?_⟩) (by assumption) ?_; rotate_left; (focus ((try simp only [List.getElem_toArray, List.getElem_cons_zero, List.getElem_cons_succ]); intro w hSw; (try dsimp only at hSw); go_simp; all_goals (with_reducible rfl))); (try simp only [List.getElem_toArray, List.getElem_cons_zero, List.getElem_cons_succ, Act.put, List.setIfInBounds_toArray, List.set_cons_zero, List.set_cons_succ])); (refine wpAnyH_take (i := 4) (v := ?_) rfl (by kernel_rfl) (by kernel_rfl) (by kernel_rfl) (fun _ _ _ h => h) (Or.inl ⟨by kernel_rfl, ?_⟩) (by assumption) ?_; rotate_left; (focus ((try simp only [List.getElem_toArray, List.getElem_cons_zero, List.getElem_cons_succ]); intro w hSw; (try dsimp only at hSw); go_simp; all_goals (with_reducible rfl))); (try simp only [List.getElem_toArray, List.getElem_cons_zero, List.getElem_cons_succ, Act.put, List.setIfInBounds_toArray, List.set_cons_zero, List.set_cons_succ])); (refine wpAnyH_take (i := 5) (v := ?_) rfl (by kernel_rfl) (by kernel_rfl) (by kernel_rfl) (fun _ _ _ h => h) (Or.inl ⟨by kernel_rfl, ?_⟩) (by assumption) ?_; rotate_left; (focus ((try simp only [List.getElem_toArray, List.getElem_cons_zero, List.getElem_cons_succ]); intro w hSw; (try dsimp only at hSw); go_simp; all_goals (with_reducible rfl))); (try simp only [List.getElem_toArray, List.getElem_cons_zero, List.getElem_cons_succ, Act.put, List.setIfInBounds_toArray, List.set_cons_zero, List.set_cons_succ])))
      (refine wpAnyH_ready (rs := [1, 6]) (by kernel_rfl) (by simp) ?_; refine AllReadyH.cons rfl (fun K hK => ?_) (AllReadyH.cons rfl (fun K hK => ?_) AllReadyH.nil); all_goals (try simp only [List.getElem_toArray, List.getElem_cons_zero, List.getElem_cons_succ]))
      (go_simp; (refine hK.out _ _ (by first | (trivial) | (dsimp only; trivial)) (fun hHeld => ?_); clear hK K; (try simp only [List.getElem_toArray, List.getElem_cons_zero, List.getElem_cons_succ, Act.put, List.setIfInBounds_toArray, List.set_cons_zero, List.set_cons_succ])); (refine wpAnyH_ready (rs := [6]) (by kernel_rfl) (by simp) ?_; refine AllReadyH.cons rfl (fun K hK => ?_) AllReadyH.nil; (try simp only [List.getElem_toArray, List.getElem_cons_zero, List.getElem_cons_succ])); go_simp; (refine hK.out _ _ (by first | (trivial) | (dsimp only; trivial)) (fun hHeld => ?_); clear hK K; (try simp only [List.getElem_toArray, List.getElem_cons_zero, List.getElem_cons_succ, Act.put, List.setIfInBounds_toArray, List.set_cons_zero, List.set_cons_succ])))
      rotate_left
      (go_simp; (refine hK.out _ _ (by first | (trivial) | (dsimp only; trivial)) (fun hHeld => ?_); clear hK K; (try simp only [List.getElem_toArray, List.getElem_cons_zero, List.getElem_cons_succ, Act.put, List.setIfInBounds_toArray, List.set_cons_zero, List.set_cons_succ])); (refine wpAnyH_ready (rs := [1]) (by kernel_rfl) (by simp) ?_; refine AllReadyH.cons rfl (fun K hK => ?_) AllReadyH.nil; (try simp only [List.getElem_toArray, List.getElem_cons_zero, List.getElem_cons_succ])); go_simp; (refine hK.out _ _ (by first | (trivial) | (dsimp only; trivial)) (fun hHeld => ?_); clear hK K; (try simp only [List.getElem_toArray, List.getElem_cons_zero, List.getElem_cons_succ, Act.put, List.setIfInBounds_toArray, List.set_cons_zero, List.set_cons_succ])))
      all_goals
        (refine wpAnyH_ready (rs := [7]) (by kernel_rfl) (by simp) ?_; refine AllReadyH.cons rfl (fun K hK => ?_) AllReadyH.nil; (try simp only [List.getElem_toArray, List.getElem_cons_zero, List.getElem_cons_succ]))
        rw [if_pos (by kernel_rfl)]
        refine wp_app eZ _ _ rfl (w.heap.size + 1) wr.drew A k c _ rfl (show wr.drew.ownsRow _ _ _ _ _ _ from hown) #[.int .i64 (f : Int)] rfl rfl (one_int _ _) (by omega) (by unfold maxLen; omega) hsz ?_
        rintro g cap w3 ⟨o3, bl3, gr3, _, _⟩
        rw [cZ_snoc, ← T.out] at o3
        have p1 : w3.cell? ⟨w.heap.size, 0, none⟩ = some (.slice A k c) := (bl3.cell (by show w.heap.size < w.heap.size + 1; omega)).trans hq
        have p2 : w3.frozen? ⟨w.heap.size, 0, none⟩ = false := (bl3.frozen (by show w.heap.size < w.heap.size + 1; omega)).trans hf
        have b3 : Below w.heap.size w w3 := hbel.drew.trans (bl3.mono (by omega))
        have s3 : w.heap.size + 1 ≤ w3.heap.size := Nat.le_trans hsz bl3.size
        (refine hK.out _ _ (by first | (trivial) | (dsimp only; trivial)) (fun hHeld => ?_); clear hK K; (try simp only [List.getElem_toArray, List.getElem_cons_zero, List.getElem_cons_succ, Act.put, List.setIfInBounds_toArray, List.set_cons_zero, List.set_cons_succ]))
        ((refine wpAnyH_take (i := 8) (v := ?_) rfl (by kernel_rfl) (by kernel_rfl) (by kernel_rfl) (fun _ _ _ h => h) (Or.inl ⟨by kernel_rfl, ?_⟩) (by assumption) ?_; rotate_left; (focus ((try simp only [List.getElem_toArray, List.getElem_cons_zero, List.getElem_cons_succ]); intro w hSw; (try dsimp only at hSw); go_simp; all_goals (with_reducible rfl))); (try simp only [List.getElem_toArray, List.getElem_cons_zero, List.getElem_cons_succ, Act.put, List.setIfInBounds_toArray, List.set_cons_zero, List.set_cons_succ])))
        (refine wpAnyH_ready (rs := [9]) (by kernel_rfl) (by simp) ?_; refine AllReadyH.cons rfl (fun K hK => ?_) AllReadyH.nil; (try simp only [List.getElem_toArray, List.getElem_cons_zero, List.getElem_cons_succ]))
        go_simp
        (refine hK.out _ _ (by first | (trivial) | (dsimp only; trivial)) (fun hHeld => ?_); clear hK K; (try simp only [List.getElem_toArray, List.getElem_cons_zero, List.getElem_cons_succ, Act.put, List.setIfInBounds_toArray, List.set_cons_zero, List.set_cons_succ]))
        (refine wpAnyH_done (by kernel_rfl) ?_ _)
        clear hHeld bl3 gr3 hu0 hd1 hf1 hf2 w1 w2 hqa hown hq hf
        have z1 : (w3.setCell ⟨w.heap.size, 0, none⟩ (.slice (some ⟨g, 0, none⟩) (k + 1) cap)).cell? ⟨w.heap.size, 0, none⟩ = some (.slice (some ⟨g, 0, none⟩) (k + 1) cap) := by simp [go_sem, p1]
        have z2 : (w3.setCell ⟨w.heap.size, 0, none⟩ (.slice (some ⟨g, 0, none⟩) (k + 1) cap)).frozen? ⟨w.heap.size, 0, none⟩ = false := by simp [go_sem, p2]
        have z5 := ownsRow_setCell_below o3 (a := ⟨w.heap.size, 0, none⟩) (by show w.heap.size < w.heap.size + 1; omega) (.slice (some ⟨g, 0, none⟩) (k + 1) cap)
        have z6 := b3.setCell (p := ⟨w.heap.size, 0, none⟩) (Nat.le_refl _) (.slice (some ⟨g, 0, none⟩) (k + 1) cap)
        have z7 : w.heap.size + 1 ≤ (w3.setCell ⟨w.heap.size, 0, none⟩ (.slice (some ⟨g, 0, none⟩) (k + 1) cap)).heap.size := by simpa using s3
        generalize w3.setCell ⟨w.heap.size, 0, none⟩ (.slice (some ⟨g, 0, none⟩) (k + 1) cap) = w4 at z1 z2 z5 z6 z7 ⊢
        clear p1 p2 b3 s3 o3
        go_wp2
        go_roundw
        case rel => exact ⟨k + 1, _, _, by omega, by go_num, z1, z2, z5, z6, z7⟩
        case measure => simp [intOf]; omega
    · obtain rfl : k = n := by omega
      have rr := Lib.hid (Rd.of_own hown)
      have ra1 := Lib.hid (r0.on hbel)
      have HRK : Hid (∀ z : Int × Int, 0 ≤ rJ (sevens s k) z ∧ rJ (sevens s k) z < s) := fun z => sevens_rk s k hs z.1
      clear hown hf hsz ra r0
      generalize sevens s k = R at rr HRK
      obtain ⟨W, rfl⟩ : ∃ W, W = wr := ⟨_, rfl⟩
      have HGL : Hid (∀ r i, (gath R l0 r i).length ≤ n0) := fun r i => by rw [← HL.out]; exact gath_le R l0 r i fun z _ => (HRK.out z).1
      go_wp2_with fail
      go_loopw [7, 33] (fun u t wr => ∃ (r : Nat) (B : Option Addr) (cb : Nat), r ≤ s ∧ t = .int .i64 r ∧ u = .slice B (gath R l0 r 0).length cb ∧ wr.ownsRow W.heap.size 28 2 (.slice B (gath R l0 r 0).length cb) (gath R l0 r 0).length (cI (gath R l0 r 0)) ∧ Below W.heap.size W wr) (fun _ t _ => s - (intOf t).toNat)
      case atStart => exact ⟨0, none, 0, Nat.zero_le _, rfl, rfl, own_nil _ _ _ _, Below.refl _ _⟩
      case round =>
        obtain ⟨r, B, cb, hr, rfl, rfl, hown, hbel2⟩ := hrel
        by_cases hlr : r < s
        · go_wp2_with fail
          go_loopw [7, 38] (fun u t wr => ∃ (i : Nat) (B : Option Addr) (cb : Nat), i ≤ n0 ∧ t = .int .i64 i ∧ u = .slice B (gath R l0 r i).length cb ∧ wr.ownsRow W.heap.size 28 2 (.slice B (gath R l0 r i).length cb) (gath R l0 r i).length (cI (gath R l0 r i)) ∧ Below W.heap.size W wr) (fun _ t _ => n0 - (intOf t).toNat)
          case atStart => exact ⟨0, B, cb, Nat.zero_le _, rfl, rfl, hown, hbel2⟩
          case round =>
            clear hown hbel2
            obtain ⟨i, B, cb, hi, rfl, rfl, hown, hbel2⟩ := hrel
            by_cases hli : i < n0
            · obtain ⟨b, off, rfl, _, hc1, hc2⟩ := rdI_at (k := i) (ra1.out.on hbel2) hli
              have T := Lib.hid (gath_snoc R l0 r i (by rw [HL.out]; exact hli))
              have hgl := HGL.out r i
              obtain ⟨G, hG⟩ : ∃ G, G = gath R l0 r i := ⟨_, rfl⟩
              rw [← hG] at T hgl hown
              rw [← hG]
              clear hG
              obtain ⟨⟨xk, xt⟩, hx⟩ : ∃ x, x = it l0 i := ⟨_, rfl⟩
              rw [← hx] at hc1 hc2 T
              clear hx
              have hbx := hbel2.alloc hbel2.size (.cells #[.int .i64 xk, .int .i64 xt] 28)
              have t2 := cell_on hbx hq
              have HO := Lib.hid (hown.alloc (.cells #[.int .i64 xk, .int .i64 xt] 28))
              have y0 : (wr.alloc (.cells #[.int .i64 xk, .int .i64 xt] 28)).cell? ⟨wr.heap.size, 0, none⟩ = some (.int .i64 xk) := by simp [go_sem]
              have y1 : (wr.alloc (.cells #[.int .i64 xk, .int .i64 xt] 28)).cell? ⟨wr.heap.size, 1, none⟩ = some (.int .i64 xt) := by simp [go_sem]
              have rq := Lib.hid (rr.out.on hbx)
              clear hown
              go_wp2_with fail
              generalize wr.alloc (.cells #[.int .i64 xk, .int .i64 xt] 28) = W2 at hbx t2 HO y0 y1 rq ⊢
              refine (lrank_any R A k c _ _ _ rq.out).mono ?_
              rintro e w2 ⟨rfl, hb2⟩
              have o2 := own_on HO.out hb2
              have u0 := cell_on hb2 y0
              have u1 := cell_on hb2 y1
              have b2 := below_step hbx hb2
              clear HO y0 y1 rq
              by_cases hv : rk R xk = (r : Int)
              · have hv' : (rk R xk == (r : Int)) = true := by rw [beq_iff_eq]; exact hv
                have HT : Hid (gath R l0 r (i + 1) = G ++ [(xk, xt)]) := by unfold Hid; rw [T.out, if_pos hv]
                clear T hv
                go_wp2_with (at_builtin; refine wpList_app eI rfl _ _ rfl W.heap.size w2 B G.length cb _ rfl o2 #[.int .i64 xk, .int .i64 xt] rfl rfl (one_two _ _ _ _) (by omega) (by unfold maxLen; omega) b2.size ?_; rintro g cap w3 ⟨o3, bl3, _, _, _⟩)
                rw [cI_snoc (x := (xk, xt)), ← HT.out, show G.length + 1 = (gath R l0 r (i + 1)).length by rw [HT.out]; simp] at o3
                have HLn : Hid (G.length + 1 = (gath R l0 r (i + 1)).length) := by unfold Hid; rw [HT.out]; simp
                have b3 := b2.trans bl3
                clear o2
                go_roundw
                case rel => exact ⟨i + 1, some ⟨g, 0, none⟩, cap, by omega, by go_num, by rw [HLn.out], o3, b3⟩
                case measure => simp [intOf]; omega
              · have hv' : (rk R xk == (r : Int)) = false := by rw [beq_eq_false_iff_ne]; exact hv
                have HT : Hid (gath R l0 r (i + 1) = G) := by unfold Hid; rw [T.out, if_neg hv, List.append_nil]
                clear T hv
                rw [← HT.out] at o2
                go_wp2
                go_roundw
                case rel => exact ⟨i + 1, B, cb, by omega, by go_num, by rw [HT.out], o2, b2⟩
                case measure => simp [intOf]; omega
            · obtain rfl : i = n0 := by omega
              have HT : Hid (gath R l0 r i = gath R l0 (r + 1) 0) := by unfold Hid; rw [gath_zero, gath_all R l0 r i HL.out]
              rw [HT.out] at hown
              go_wp2
              go_roundw
              case rel => exact ⟨r + 1, B, cb, by omega, by go_num, by rw [HT.out], hown, hbel2⟩
              case measure => simp [intOf]; omega
        · obtain rfl : r = s := by omega
          have HA : Hid (gath R l0 r 0 = stab (rJ R) l0) := by unfold Hid; rw [gath_zero]; exact (stab_counted (rJ R) l0 r (fun z _ => (HRK.out z).1) (fun z _ => (HRK.out z).2)).symm
          have HN : Hid ((gath R l0 r 0).length = n0) := by unfold Hid; rw [HA.out, stab_len]; exact HL.out
          rw [HN.out, HA.out] at hown
          rw [HN.out]
          have ro := Lib.hid (Rd.of_own hown)
          have e2 := cell_on hbel2 hq
          clear hown
          go_wp2_with (first
            | (go_at_call 21; refine (Stable_any R A k c l0 A0 n0 c0 _ (rr.out.on hbel2) (ra1.out.on hbel2) (by omega)).mono ?_; rintro e w1 ⟨A3, c3, rfl, o3, hb3⟩; have ru := Lib.hid (Rd.of_own o3); clear o3)
            | (go_at_call 20; refine (same_items (stab (rJ R) l0) A3 B n0 c3 cb _ ru.out (ro.out.on hb3) (by omega)).mono ?_; rintro e w4 ⟨rfl, hb4⟩))
          go_ret
          exact ⟨rfl, below_step hbel (below_step (below_step hbel2 hb3) hb4)⟩
end Go.Proofs.Ytbfeokhkmlcgaaa

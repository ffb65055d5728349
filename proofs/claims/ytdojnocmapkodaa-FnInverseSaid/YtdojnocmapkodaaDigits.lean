/- The contract of laws.digitsOf: the ranks of the keys by a digit. -/
import Derived.Test.YtdojnocmapkodaaRadixPlain
import Derived.Test.YtdojnocmapkodaaElems
import Derived.Test.YtdojnocmapkodaaTwo
import Derived.Test.YtdojnocmapkodaaRank
import Derived.Test.YtdojnocmapkodaaTheirs
import Derived.Deep.RegionHeld3
import Derived.IntWalk
namespace Go.Proofs.Ytdojnocmapkodaa
open Go.RowKit
attribute [local go_sem ↓] Go.wp_at_zero Go.wp_at_succ
theorem cZ_snoc (l : List Int) (x : Int) : cZ l ++ (#[Value.int .i64 x] : Array Value).toList = cZ (l ++ [x]) := by simp [cZ]
/-- An order that the call made, whose ranks are a row of the call's own. -/
def OwnOrder (R : List Int) (n : Nat) (w : World) (en : Ending) (w' : World) : Prop :=
  ∃ A c, en = .returned (.agg #[.slice A n c]) ∧ w'.ownsRow w.heap.size 3 1 (.slice A n c) n (cZ R) ∧ Below w.heap.size w w'

set_option linter.unusedSimpArgs false in
set_option maxHeartbeats 2000000 in
theorem digitsOf_any (many unit base : Nat) (w : World) (hm : many ≤ 17592186044415) (hu : 1 ≤ unit) (hu2 : unit ≤ 9223372036854775807) (hb : 1 ≤ base) (hb2 : base ≤ 9223372036854775807) :
    Calls Try.prog 24 #[.int .i64 many, .int .i64 unit, .int .i64 base] w (OwnOrder (digs many unit base) many w) := by
  go_enter Try.func24, Try.ntmps24
  go_wp2
  go_loopw [10] (fun s wr => ∃ (k : Nat) (A : Option Addr) (c : Nat), k ≤ many ∧ s = .int .i64 k ∧ wr.cell? ⟨w.heap.size + 1, 0, none⟩ = some (.slice A k c) ∧ wr.frozen? ⟨w.heap.size + 1, 0, none⟩ = false ∧
    wr.cell? ⟨w.heap.size, 0, none⟩ = some (.slice none 0 0) ∧ wr.frozen? ⟨w.heap.size, 0, none⟩ = false ∧ wr.ownsRow (w.heap.size + 2) 3 1 (.slice A k c) k (cZ (digs k unit base)) ∧ Below w.heap.size w wr ∧ w.heap.size + 2 ≤ wr.heap.size) (fun s _ => many - (intOf s).toNat)
  case atStart => exact ⟨0, none, 0, Nat.zero_le _, rfl, by simp [go_sem], by simp [go_sem], by simp [go_sem], by simp [go_sem], by simpa [cZ, digs] using own_nil _ _ _ _, below_alloc2 w _ _, by simp⟩
  case round =>
    obtain ⟨k, A, c, hk, rfl, hq, hf, hq0, hf0, hown, hbel, hsz⟩ := hrel
    by_cases hlt : k < many
    · have T := Lib.hid (digs_succ k unit base)
      have hu0 : ¬ unit = 0 := by omega
      have hb0 : ¬ base = 0 := by omega
      obtain ⟨d, hd⟩ : ∃ d, d = k / unit := ⟨_, rfl⟩
      have hdk : d ≤ k := by rw [hd]; exact Nat.div_le_self _ _
      have hd1 : (k : Int) / (unit : Int) = (d : Int) := by rw [hd]; exact (Int.natCast_ediv _ _).symm
      rw [← hd] at T
      clear hd
      obtain ⟨f, hf'⟩ : ∃ f, f = d % base := ⟨_, rfl⟩
      have hfd : f ≤ d := by rw [hf']; exact Nat.mod_le _ _
      have hf1 : (d : Int) % (base : Int) = (f : Int) := by rw [hf']; exact (Int.natCast_emod _ _).symm
      have hf2 : (d : Int).tmod (base : Int) = (f : Int) := by rw [Int.tmod_eq_emod_of_nonneg (Int.natCast_nonneg _)]; exact hf1
      rw [← hf'] at T
      clear hf'
      have w1 : IntKind.i64.wrap (d : Int) = (d : Int) := IntWalk.i64_in _ (by omega)
      have w2 : IntKind.i64.wrap (f : Int) = (f : Int) := IntWalk.i64_in _ (by omega)
      have hqa : (wr.alloc (.cells #[.int .i64 (f : Int)] 3)).cell? ⟨w.heap.size + 1, 0, none⟩ = some (.slice A k c) := (World.cell?_alloc_lt _ _ _ (by show w.heap.size + 1 < wr.heap.size; omega)).trans hq
      go_wp2_with fail
      refine wp_region_held_drew (S := fun _ => True) (by kernel_rfl) trivial (fun hHeld => ?_)
      ((refine wpAnyH_take (i := 0) (v := ?_) rfl (by kernel_rfl) (by kernel_rfl) (by kernel_rfl) (fun _ _ _ h => h) (Or.inl ⟨by kernel_rfl, ?_⟩) (by assumption) ?_; rotate_left; (focus ((try simp only [List.getElem_toArray, List.getElem_cons_zero, List.getElem_cons_succ]); intro w hSw; (try dsimp only at hSw); go_simp; all_goals (with_reducible rfl))); (try simp only [List.getElem_toArray, List.getElem_cons_zero, List.getElem_cons_succ, Act.put, List.setIfInBounds_toArray, List.set_cons_zero, List.set_cons_succ])); (refine wpAnyH_take (i := 2) (v := ?_) rfl (by kernel_rfl) (by kernel_rfl) (by kernel_rfl) (fun _ _ _ h => h) (Or.inl ⟨by kernel_rfl, ?_⟩) (by assumption) ?_; rotate_left; (focus ((try simp only [List.getElem_toArray, List.getElem_cons_zero, List.getElem_cons_succ]); intro w hSw; (try dsimp only at hSw); go_simp; all_goals (with_reducible rfl))); (try simp only [List.getElem_toArray, List.getElem_cons_zero, List.getElem_cons_succ, Act.put, List.setIfInBounds_toArray, List.set_cons_zero, List.set_cons_succ])); (refine wpAnyH_take (i := 3) (v := ?_) rfl (by kernel_rfl) (by kernel_rfl) (by kernel_rfl) (fun _ _ _ h => h) (Or.inl ⟨by kernel_rfl, ?_⟩) (by assumption) ?_; rotate_left; (focus ((try simp only [List.getElem_toArray, List.getElem_cons_zero, List.getElem_cons_succ]); intro w hSw; (try dsimp only at hSw); go_simp; all_goals (with_reducible rfl))); (try simp only [List.getElem_toArray, List.getElem_cons_zero, List.getElem_cons_succ, Act.put, List.setIfInBounds_toArray, List.set_cons_zero, List.set_cons_succ])); (refine wpAnyH_take (i := 4) (v := ?_) rfl (by kernel_rfl) (by kernel_rfl) (by kernel_rfl) (fun _ _ _ h => h) (Or.inl ⟨by kernel_rfl, ?_⟩) (by assumption) ?_; rotate_left; (focus ((try simp only [List.getElem_toArray, List.getElem_cons_zero, List.getElem_cons_succ]); intro w hSw; (try dsimp only at hSw); go_simp; all_goals (with_reducible rfl))); (try simp only [List.getElem_toArray, List.getElem_cons_zero, List.getElem_cons_succ, Act.put, List.setIfInBounds_toArray, List.set_cons_zero, List.set_cons_succ])); (refine wpAnyH_take (i := 5) (v := ?_) rfl (by kernel_rfl) (by kernel_rfl) (by kernel_rfl) (fun _ _ _ h => h) (Or.inl ⟨by kernel_rfl, ?_⟩) (by assumption) ?_; rotate_left; (focus ((try simp only [List.getElem_toArray, List.getElem_cons_zero, List.getElem_cons_succ]); intro w hSw; (try dsimp only at hSw); go_simp; all_goals (with_reducible rfl))); (try simp only [List.getElem_toArray, List.getElem_cons_zero, List.getElem_cons_succ, Act.put, List.setIfInBounds_toArray, List.set_cons_zero, List.set_cons_succ])); (refine wpAnyH_take (i := 6) (v := ?_) rfl (by kernel_rfl) (by kernel_rfl) (by kernel_rfl) (fun _ _ _ h => h) (Or.inl ⟨by kernel_rfl, ?_⟩) (by assumption) ?_; rotate_left; (focus ((try simp only [List.getElem_toArray, List.getElem_cons_zero, List.getElem_cons_succ]); intro w hSw; (try dsimp only at hSw); go_simp; all_goals (with_reducible rfl))); (try simp only [List.getElem_toArray, List.getElem_cons_zero, List.getElem_cons_succ, Act.put, List.setIfInBounds_toArray, List.set_cons_zero, List.set_cons_succ])))
      (refine wpAnyH_ready (rs := [1, 7]) (by kernel_rfl) (by simp) ?_; refine AllReadyH.cons rfl (fun K hK => ?_) (AllReadyH.cons rfl (fun K hK => ?_) AllReadyH.nil); all_goals (try simp only [List.getElem_toArray, List.getElem_cons_zero, List.getElem_cons_succ]))
      (go_simp; (refine hK.out _ _ (by first | (trivial) | (dsimp only; trivial)) (fun hHeld => ?_); clear hK K; (try simp only [List.getElem_toArray, List.getElem_cons_zero, List.getElem_cons_succ, Act.put, List.setIfInBounds_toArray, List.set_cons_zero, List.set_cons_succ])); (refine wpAnyH_ready (rs := [7]) (by kernel_rfl) (by simp) ?_; refine AllReadyH.cons rfl (fun K hK => ?_) AllReadyH.nil; (try simp only [List.getElem_toArray, List.getElem_cons_zero, List.getElem_cons_succ])); go_simp; (refine hK.out _ _ (by first | (trivial) | (dsimp only; trivial)) (fun hHeld => ?_); clear hK K; (try simp only [List.getElem_toArray, List.getElem_cons_zero, List.getElem_cons_succ, Act.put, List.setIfInBounds_toArray, List.set_cons_zero, List.set_cons_succ])))
      rotate_left
      (go_simp; (refine hK.out _ _ (by first | (trivial) | (dsimp only; trivial)) (fun hHeld => ?_); clear hK K; (try simp only [List.getElem_toArray, List.getElem_cons_zero, List.getElem_cons_succ, Act.put, List.setIfInBounds_toArray, List.set_cons_zero, List.set_cons_succ])); (refine wpAnyH_ready (rs := [1]) (by kernel_rfl) (by simp) ?_; refine AllReadyH.cons rfl (fun K hK => ?_) AllReadyH.nil; (try simp only [List.getElem_toArray, List.getElem_cons_zero, List.getElem_cons_succ])); go_simp; (refine hK.out _ _ (by first | (trivial) | (dsimp only; trivial)) (fun hHeld => ?_); clear hK K; (try simp only [List.getElem_toArray, List.getElem_cons_zero, List.getElem_cons_succ, Act.put, List.setIfInBounds_toArray, List.set_cons_zero, List.set_cons_succ])))
      all_goals
        (refine wpAnyH_ready (rs := [8]) (by kernel_rfl) (by simp) ?_; refine AllReadyH.cons rfl (fun K hK => ?_) AllReadyH.nil; (try simp only [List.getElem_toArray, List.getElem_cons_zero, List.getElem_cons_succ]))
        rw [if_pos (by kernel_rfl)]
        refine wp_app eZ _ _ rfl (w.heap.size + 2) wr.drew A k c _ rfl (show wr.drew.ownsRow _ _ _ _ _ _ from hown) #[.int .i64 (f : Int)] rfl rfl (one_int _ _) (by omega) (by unfold maxLen; omega) hsz ?_
        rintro g cap w3 ⟨o3, bl3, gr3, _, _⟩
        rw [cZ_snoc, ← T.out] at o3
        have p1 : w3.cell? ⟨w.heap.size + 1, 0, none⟩ = some (.slice A k c) := (bl3.cell (by show w.heap.size + 1 < w.heap.size + 2; omega)).trans hq
        have p2 : w3.frozen? ⟨w.heap.size + 1, 0, none⟩ = false := (bl3.frozen (by show w.heap.size + 1 < w.heap.size + 2; omega)).trans hf
        have p3 : w3.cell? ⟨w.heap.size, 0, none⟩ = some (.slice none 0 0) := (bl3.cell (by show w.heap.size < w.heap.size + 2; omega)).trans hq0
        have p4 : w3.frozen? ⟨w.heap.size, 0, none⟩ = false := (bl3.frozen (by show w.heap.size < w.heap.size + 2; omega)).trans hf0
        have b3 : Below w.heap.size w w3 := hbel.drew.trans (bl3.mono (by omega))
        have s3 : w.heap.size + 2 ≤ w3.heap.size := Nat.le_trans hsz bl3.size
        (refine hK.out _ _ (by first | (trivial) | (dsimp only; trivial)) (fun hHeld => ?_); clear hK K; (try simp only [List.getElem_toArray, List.getElem_cons_zero, List.getElem_cons_succ, Act.put, List.setIfInBounds_toArray, List.set_cons_zero, List.set_cons_succ]))
        ((refine wpAnyH_take (i := 9) (v := ?_) rfl (by kernel_rfl) (by kernel_rfl) (by kernel_rfl) (fun _ _ _ h => h) (Or.inl ⟨by kernel_rfl, ?_⟩) (by assumption) ?_; rotate_left; (focus ((try simp only [List.getElem_toArray, List.getElem_cons_zero, List.getElem_cons_succ]); intro w hSw; (try dsimp only at hSw); go_simp; all_goals (with_reducible rfl))); (try simp only [List.getElem_toArray, List.getElem_cons_zero, List.getElem_cons_succ, Act.put, List.setIfInBounds_toArray, List.set_cons_zero, List.set_cons_succ])))
        (refine wpAnyH_ready (rs := [10]) (by kernel_rfl) (by simp) ?_; refine AllReadyH.cons rfl (fun K hK => ?_) AllReadyH.nil; (try simp only [List.getElem_toArray, List.getElem_cons_zero, List.getElem_cons_succ]))
        go_simp
        (refine hK.out _ _ (by first | (trivial) | (dsimp only; trivial)) (fun hHeld => ?_); clear hK K; (try simp only [List.getElem_toArray, List.getElem_cons_zero, List.getElem_cons_succ, Act.put, List.setIfInBounds_toArray, List.set_cons_zero, List.set_cons_succ]))
        (refine wpAnyH_done (by kernel_rfl) ?_ _)
        clear hHeld bl3 gr3 hu0 hb0 hd1 hf1 hf2 w1 w2 hqa hown hq hf hq0 hf0
        have z1 : (w3.setCell ⟨w.heap.size + 1, 0, none⟩ (.slice (some ⟨g, 0, none⟩) (k + 1) cap)).cell? ⟨w.heap.size + 1, 0, none⟩ = some (.slice (some ⟨g, 0, none⟩) (k + 1) cap) := by simp [go_sem, p1]
        have z2 : (w3.setCell ⟨w.heap.size + 1, 0, none⟩ (.slice (some ⟨g, 0, none⟩) (k + 1) cap)).frozen? ⟨w.heap.size + 1, 0, none⟩ = false := by simp [go_sem, p2]
        have z3 : (w3.setCell ⟨w.heap.size + 1, 0, none⟩ (.slice (some ⟨g, 0, none⟩) (k + 1) cap)).cell? ⟨w.heap.size, 0, none⟩ = some (.slice none 0 0) := (World.cell?_setCell_far _ _ _ _ (by simp)).trans p3
        have z4 : (w3.setCell ⟨w.heap.size + 1, 0, none⟩ (.slice (some ⟨g, 0, none⟩) (k + 1) cap)).frozen? ⟨w.heap.size, 0, none⟩ = false := by simp [go_sem, p4]
        have z5 := ownsRow_setCell_below o3 (a := ⟨w.heap.size + 1, 0, none⟩) (by show w.heap.size + 1 < w.heap.size + 2; omega) (.slice (some ⟨g, 0, none⟩) (k + 1) cap)
        have z6 := b3.setCell (p := ⟨w.heap.size + 1, 0, none⟩) (by show w.heap.size ≤ w.heap.size + 1; omega) (.slice (some ⟨g, 0, none⟩) (k + 1) cap)
        have z7 : w.heap.size + 2 ≤ (w3.setCell ⟨w.heap.size + 1, 0, none⟩ (.slice (some ⟨g, 0, none⟩) (k + 1) cap)).heap.size := by simpa using s3
        generalize w3.setCell ⟨w.heap.size + 1, 0, none⟩ (.slice (some ⟨g, 0, none⟩) (k + 1) cap) = w4 at z1 z2 z3 z4 z5 z6 z7 ⊢
        clear p1 p2 p3 p4 b3 s3 o3
        go_wp2
        go_roundw
        case rel => exact ⟨k + 1, _, _, by omega, by go_num, z1, z2, z3, z4, z5, z6, z7⟩
        case measure => simp [intOf]; omega
    · obtain rfl : k = many := by omega
      have o1 := own_base (base' := w.heap.size) hown (by omega)
      have o2 : (wr.setCell ⟨w.heap.size, 0, none⟩ (.slice A k c)).ownsRow w.heap.size 3 1 (.slice A k c) k (cZ (digs k unit base)) := own_base (ownsRow_setCell_below hown (a := ⟨w.heap.size, 0, none⟩) (by show w.heap.size < w.heap.size + 2; omega) _) (by omega)
      have b2 := hbel.setCell (p := ⟨w.heap.size, 0, none⟩) (Nat.le_refl _) (.slice A k c)
      have HO := Lib.hid o2
      clear o1 o2 hown
      go_wp2
      exact bodyPost_ret (v := .agg #[.slice A k c]) (by simp [results, Try.results24, go_sem, hq0]) rfl ⟨A, c, rfl, HO.out, b2⟩
end Go.Proofs.Ytdojnocmapkodaa

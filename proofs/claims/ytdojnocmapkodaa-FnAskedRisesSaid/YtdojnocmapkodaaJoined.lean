/- The contract of laws.joined, of items: both lists, one behind the other, as a new list. -/
import Derived.Test.YtdojnocmapkodaaAppAll
import Derived.Test.YtdojnocmapkodaaElems
import Derived.Test.YtdojnocmapkodaaRank
namespace Go.Proofs.Ytdojnocmapkodaa
open Go.RowKit
theorem All.below {W w' : World} {base e size n : Nat} {v v' : Value} {ys : List Value} (h : All W base e size v n ys v' w') (hb : base ≤ W.heap.size) (hv : ∀ k, v.ownBlock = some k → base ≤ k) : Below base W w' := (Below.refl _ _).grown h.2.1 hb hv
theorem own_slice {w : World} {base e size n : Nat} {v : Value} {xs : List Value} (h : w.ownsRow base e size v n xs) : ∃ A c, v = .slice A n c := by
  rcases h.2 with ⟨h, h0⟩ | ⟨g, cap, cur, hv, _⟩
  · exact ⟨none, 0, by rw [h, h0]⟩
  · exact ⟨_, _, hv⟩
theorem cI_app (l m : List (Int × Int)) : cI l ++ cI m = cI (l ++ m) := by simp [cI]

set_option maxHeartbeats 1000000 in
theorem joined_items (l m : List (Int × Int)) (A B : Option Addr) (n k c d : Nat) (w : World) (ha : Rd w w.heap.size 2 A n (cI l)) (hb : Rd w w.heap.size 2 B k (cI m)) (hn : (n + k) * 16 ≤ 140737488355328) :
    Calls Try.prog 26 #[.slice A n c, .slice B k d] w (OwnList 27 2 (cI (l ++ m)) (n + k) w) := by
  go_enter Try.func26, Try.ntmps26
  have H1 : Hid (∀ v1 w1, All w w.heap.size 27 2 (.slice none 0 0) (0 + n) ([] ++ cI l) v1 w1 → ∃ A1 c1, v1 = .slice A1 n c1 ∧ w1.ownsRow w.heap.size 27 2 (.slice A1 n c1) n (cI l) ∧ Below w.heap.size w w1) := fun v1 w1 h1 => by
    have b1 := h1.below (Nat.le_refl _) (fun k hk => by cases hk)
    obtain ⟨o1, _, _⟩ := h1
    rw [Nat.zero_add, List.nil_append] at o1
    obtain ⟨A1, c1, rfl⟩ := own_slice o1
    exact ⟨A1, c1, rfl, o1, b1⟩
  go_wp2_with (first
    | (at_builtin; refine wpList_all eI rfl _ _ rfl w.heap.size _ (.slice none 0 0) 0 [] rfl (own_nil _ _ _ _) w.heap.size A n c (cI l) rfl ha (cI_one l) (by omega) (by unfold maxLen; omega) (Nat.le_refl _) ?_; intro v1 w1 h1; obtain ⟨A1, c1, rfl, o1, b1⟩ := H1.out v1 w1 h1; clear h1)
    | (at_builtin; refine wpList_all eI rfl _ _ rfl w.heap.size _ (.slice A1 n c1) n (cI l) rfl o1 w.heap.size B k d (cI m) rfl (hb.below b1) (cI_one m) (by omega) (by unfold maxLen; omega) b1.size ?_; intro v2 w2 h2))
  have b2 := h2.below b1.size (own_block o1)
  obtain ⟨o2, _, _⟩ := h2
  rw [cI_app] at o2
  obtain ⟨A2, c2, rfl⟩ := own_slice o2
  go_wp2
  go_ret
  exact ⟨A2, c2, rfl, o2, b1.trans b2⟩
end Go.Proofs.Ytdojnocmapkodaa

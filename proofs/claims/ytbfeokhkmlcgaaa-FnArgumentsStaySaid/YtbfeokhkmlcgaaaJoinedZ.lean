/- The contract of laws.joined, of ints: both lists, one behind the other, as a new list. -/
import Derived.Test.YtbfeokhkmlcgaaaAppAll
import Derived.Test.YtbfeokhkmlcgaaaElems
import Derived.Test.YtbfeokhkmlcgaaaJoined
namespace Go.Proofs.Ytbfeokhkmlcgaaa
open Go.RowKit
theorem cZ_app (l m : List Int) : cZ l ++ cZ m = cZ (l ++ m) := by simp [cZ]
set_option maxHeartbeats 1000000 in
theorem joined_ints (l m : List Int) (A B : Option Addr) (n k c d : Nat) (w : World) (ha : Rd w w.heap.size 1 A n (cZ l)) (hb : Rd w w.heap.size 1 B k (cZ m)) (hn : (n + k) * 8 ≤ 140737488355328) :
    Calls Try.prog 23 #[.slice A n c, .slice B k d] w (OwnList 3 1 (cZ (l ++ m)) (n + k) w) := by
  go_enter Try.func23, Try.ntmps23
  have H1 : Hid (∀ v1 w1, All w w.heap.size 3 1 (.slice none 0 0) (0 + n) ([] ++ cZ l) v1 w1 → ∃ A1 c1, v1 = .slice A1 n c1 ∧ w1.ownsRow w.heap.size 3 1 (.slice A1 n c1) n (cZ l) ∧ Below w.heap.size w w1) := fun v1 w1 h1 => by
    have b1 := h1.below (Nat.le_refl _) (fun k hk => by cases hk)
    obtain ⟨o1, _, _⟩ := h1
    rw [Nat.zero_add, List.nil_append] at o1
    obtain ⟨A1, c1, rfl⟩ := own_slice o1
    exact ⟨A1, c1, rfl, o1, b1⟩
  go_wp2_with (first
    | (at_builtin; refine wpList_all eZ rfl _ _ rfl w.heap.size _ (.slice none 0 0) 0 [] rfl (own_nil _ _ _ _) w.heap.size A n c (cZ l) rfl ha (cZ_one l) (by omega) (by unfold maxLen; omega) (Nat.le_refl _) ?_; intro v1 w1 h1; obtain ⟨A1, c1, rfl, o1, b1⟩ := H1.out v1 w1 h1; clear h1)
    | (at_builtin; refine wpList_all eZ rfl _ _ rfl w.heap.size _ (.slice A1 n c1) n (cZ l) rfl o1 w.heap.size B k d (cZ m) rfl (hb.below b1) (cZ_one m) (by omega) (by unfold maxLen; omega) b1.size ?_; intro v2 w2 h2))
  have b2 := h2.below b1.size (own_block o1)
  obtain ⟨o2, _, _⟩ := h2
  rw [cZ_app] at o2
  obtain ⟨A2, c2, rfl⟩ := own_slice o2
  go_wp2
  go_ret
  exact ⟨A2, c2, rfl, o2, b1.trans b2⟩
end Go.Proofs.Ytbfeokhkmlcgaaa

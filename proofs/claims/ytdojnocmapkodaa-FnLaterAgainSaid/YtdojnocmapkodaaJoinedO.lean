/- The contract of laws.joined, of orders: both lists, one behind the other, as a new list. -/
import Derived.Test.YtdojnocmapkodaaAppAll
import Derived.Test.YtdojnocmapkodaaElems
import Derived.Test.YtdojnocmapkodaaBefore
namespace Go.Proofs.Ytdojnocmapkodaa
open Go.RowKit
theorem All.belowO {W w' : World} {base e size n : Nat} {v v' : Value} {ys : List Value} (h : All W base e size v n ys v' w') (hb : base ≤ W.heap.size) (hv : ∀ k, v.ownBlock = some k → base ≤ k) : Below base W w' := (Below.refl _ _).grown h.2.1 hb hv
theorem own_sliceO {w : World} {base e size n : Nat} {v : Value} {xs : List Value} (h : w.ownsRow base e size v n xs) : ∃ A c, v = .slice A n c := by
  rcases h.2 with ⟨h, h0⟩ | ⟨g, cap, cur, hv, _⟩
  · exact ⟨none, 0, by rw [h, h0]⟩
  · exact ⟨_, _, hv⟩
theorem cT_one (ts : List Tab) : ∀ u ∈ ts.map cT, u.oneCell' = true := by
  intro u hu
  rw [List.mem_map] at hu
  obtain ⟨x, _, rfl⟩ := hu
  rfl
set_option maxHeartbeats 1000000 in
theorem joined_orders (l m : List Tab) (A B : Option Addr) (n k c d : Nat) (w : World) (ha : Rd w w.heap.size 1 A n (l.map cT)) (hb : Rd w w.heap.size 1 B k (m.map cT)) (hn : (n + k) * 24 ≤ 140737488355328) :
    Calls Try.prog 16 #[.slice A n c, .slice B k d] w (OwnList 25 1 ((l ++ m).map cT) (n + k) w) := by
  go_enter Try.func16, Try.ntmps16
  have H1 : Hid (∀ v1 w1, All w w.heap.size 25 1 (.slice none 0 0) (0 + n) ([] ++ l.map cT) v1 w1 → ∃ A1 c1, v1 = .slice A1 n c1 ∧ w1.ownsRow w.heap.size 25 1 (.slice A1 n c1) n (l.map cT) ∧ Below w.heap.size w w1) := fun v1 w1 h1 => by
    have b1 := h1.belowO (Nat.le_refl _) (fun k hk => by cases hk)
    obtain ⟨o1, _, _⟩ := h1
    rw [Nat.zero_add, List.nil_append] at o1
    obtain ⟨A1, c1, rfl⟩ := own_sliceO o1
    exact ⟨A1, c1, rfl, o1, b1⟩
  go_wp2_with (first
    | (at_builtin; refine wpList_all eO rfl _ _ rfl w.heap.size _ (.slice none 0 0) 0 [] rfl (own_nil _ _ _ _) w.heap.size A n c (l.map cT) rfl ha (cT_one l) (by omega) (by unfold maxLen; omega) (Nat.le_refl _) ?_; intro v1 w1 h1; obtain ⟨A1, c1, rfl, o1, b1⟩ := H1.out v1 w1 h1; clear h1)
    | (at_builtin; refine wpList_all eO rfl _ _ rfl w.heap.size _ (.slice A1 n c1) n (l.map cT) rfl o1 w.heap.size B k d (m.map cT) rfl (hb.below b1) (cT_one m) (by omega) (by unfold maxLen; omega) b1.size ?_; intro v2 w2 h2))
  have b2 := h2.belowO b1.size (own_block o1)
  obtain ⟨o2, _, _⟩ := h2
  rw [← List.map_append] at o2
  obtain ⟨A2, c2, rfl⟩ := own_sliceO o2
  go_wp2
  go_ret
  exact ⟨A2, c2, rfl, o2, b1.trans b2⟩
end Go.Proofs.Ytdojnocmapkodaa

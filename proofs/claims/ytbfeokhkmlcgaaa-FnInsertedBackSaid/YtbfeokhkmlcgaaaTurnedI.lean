/- The contract of laws.turned, of items: the list from its end, as a new list. -/
import Derived.Test.YtbfeokhkmlcgaaaTheirs
namespace Go.Proofs.Ytbfeokhkmlcgaaa
open Go.RowKit
theorem rev_it (l : List (Int × Int)) (n k : Nat) (hl : l.length = n) (hk : k < n) : l.reverse.take (k + 1) = l.reverse.take k ++ [it l (n - 1 - k)] := by
  rw [it_snoc _ k (by simp; omega), it_lt (l := l.reverse) (by simp; omega), it_lt (by omega), List.getElem_reverse]
  subst hl
  rfl
set_option maxHeartbeats 1000000 in
theorem turned_items (l : List (Int × Int)) (A : Option Addr) (n c : Nat) (w : World) (hr : Rd w w.heap.size 2 A n (cI l)) (hn : n * 16 ≤ 140737488351232) :
    Calls Try.prog 27 #[.slice A n c] w (OwnList 28 2 (cI l.reverse) n w) := by
  have HL := Lib.hid (rdI_len hr)
  go_enter Try.func27, Try.ntmps27
  go_wp2
  go_loopw [3, 4] (fun v i wr => ∃ (k : Nat) (A' : Option Addr) (c' : Nat), k ≤ n ∧ i = .int .i64 ((n : Int) - 1 - k) ∧ v = .slice A' k c' ∧ wr.ownsRow w.heap.size 28 2 (.slice A' k c') k (cI (l.reverse.take k)) ∧ Below w.heap.size w wr)
    (fun _ i _ => (intOf i + 1).toNat)
  case atStart => exact ⟨0, none, 0, Nat.zero_le _, by simp, rfl, by simpa [cI] using own_nil _ _ _ _, Below.refl _ _⟩
  case round =>
    obtain ⟨k, A', c', hk, rfl, rfl, hown, hbel⟩ := hrel
    by_cases hlt : k < n
    · obtain ⟨b, off, rfl, hb, hc1, hc2⟩ := rdI_at (k := n - 1 - k) (hr.below hbel) (by omega)
      have h1 : (0 : Int) ≤ (n : Int) - 1 - k := by omega
      have h2 : (n : Int) - 1 - k < (n : Int) := by omega
      have h3 : ((n : Int) - 1 - k).toNat = n - 1 - k := by omega
      have hsz := hbel.size
      obtain ⟨x, hx⟩ : ∃ x, x = it l (n - 1 - k) := ⟨_, rfl⟩
      rw [← hx] at hc1 hc2
      have HX := Lib.hid hx
      clear hx
      go_wp2_with (at_builtin; refine wpList_app eI rfl _ _ rfl w.heap.size wr A' k c' _ rfl hown #[.int .i64 x.1, .int .i64 x.2] rfl rfl (one_two _ _ _ _) (by omega) (by unfold maxLen; omega) hsz ?_; rintro g cap w1 ⟨o1, b1, g1, y1, z1⟩)
      rw [cI_snoc, HX.out, ← rev_it l n k HL.out hlt] at o1
      have b2 := hbel.trans b1
      go_wp2
      go_roundw
      case rel => exact ⟨k + 1, some ⟨g, 0, none⟩, cap, by omega, by go_num, rfl, o1, b2⟩
      case measure => simp [intOf]; omega
    · obtain rfl : k = n := by omega
      rw [List.take_of_length_le (by simp; rw [HL.out]; exact Nat.le_refl _)] at hown
      have h1 : (k : Int) - 1 - k < 0 := by omega
      go_wp2
      go_ret
      exact ⟨A', c', rfl, hown, hbel⟩
end Go.Proofs.Ytbfeokhkmlcgaaa

/- The contract of laws.swapped. -/
import Derived.Test.YtdojnocmapkodaaTheirs
import Derived.Test.YtdojnocmapkodaaInvPlain
namespace Go.Proofs.Ytdojnocmapkodaa
open Go.RowKit
set_option maxHeartbeats 1000000 in
theorem swapped_any (l : List (Int × Int)) (A : Option Addr) (n c : Nat) (w : World) (hr : Rd w w.heap.size 2 A n (cI l)) (hn : n * 16 ≤ 140737488351232) :
    Calls Try.prog 14 #[.slice A n c] w (OwnList 27 2 (cI (swpq l)) n w) := by
  have hl := rdI_len hr
  have HL := Lib.hid hl
  clear hl
  go_enter Try.func14, Try.ntmps14
  go_wp2
  go_loopw [3, 8] (fun v i wr => ∃ (k : Nat) (A' : Option Addr) (c' : Nat), k ≤ n ∧ i = .int .i64 k ∧ v = .slice A' k c' ∧ wr.ownsRow w.heap.size 27 2 (.slice A' k c') k (cI (swpq (l.take k))) ∧ Below w.heap.size w wr)
    (fun _ i _ => n - (intOf i).toNat)
  case atStart => exact ⟨0, none, 0, Nat.zero_le _, rfl, rfl, by simpa [cI, swpq] using own_nil _ _ _ _, Below.refl _ _⟩
  case round =>
    obtain ⟨k, A', c', hk, rfl, rfl, hown, hbel⟩ := hrel
    by_cases hlt : k < n
    · obtain ⟨b, off, rfl, hb, hc1, hc2⟩ := rdI_at (k := k) (hr.below hbel) hlt
      have hsz := hbel.size
      have hkl : k < l.length := by rw [HL.out]; exact hlt
      have T : Hid (swpq (l.take (k + 1)) = swpq (l.take k) ++ [((it l k).2, (k : Int))]) := by
        unfold Hid
        rw [it_snoc l k hkl, swpq_snoc, List.length_take, Nat.min_eq_left (by omega)]
      clear hkl
      obtain ⟨x, hx⟩ : ∃ x, x = it l k := ⟨_, rfl⟩
      rw [← hx] at hc1 hc2 T
      clear hx
      have hbx := hbel.alloc hsz (.cells #[.int .i64 x.1, .int .i64 x.2] 27)
      go_wp2_with (at_builtin; refine wpList_app eI rfl _ _ rfl w.heap.size (wr.alloc (.cells #[.int .i64 x.1, .int .i64 x.2] 27)) A' k c' _ rfl (hown.alloc _) #[.int .i64 x.2, .int .i64 (k : Int)] (by rw [World.size_alloc]; rfl) rfl (one_two _ _ _ _) (by omega) (by unfold maxLen; omega) hbx.size ?_; rintro g cap w1 ⟨o1, b1, g1, y1, z1⟩)
      rw [show cI (swpq (l.take k)) ++ (#[Value.int .i64 x.2, Value.int .i64 (k : Int)] : Array Value).toList = cI (swpq (l.take k) ++ [(x.2, (k : Int))]) from cI_snoc _ (x.2, (k : Int)), ← T.out] at o1
      have b2 := hbx.trans b1
      clear hbx
      go_wp2
      go_roundw
      case rel => exact ⟨k + 1, some ⟨g, 0, none⟩, cap, by omega, by go_num, rfl, o1, b2⟩
      case measure => simp [intOf]; omega
    · obtain rfl : k = n := by omega
      rw [List.take_of_length_le (by rw [HL.out]; exact Nat.le_refl _)] at hown
      go_wp2
      go_ret
      exact ⟨A', c', rfl, hown, hbel⟩
end Go.Proofs.Ytdojnocmapkodaa

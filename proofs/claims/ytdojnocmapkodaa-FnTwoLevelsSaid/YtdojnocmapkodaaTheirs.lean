/- The contracts of laws.theirs and laws.items: the same items, as a new list. -/
import Derived.Test.YtdojnocmapkodaaElems
import Derived.Test.YtdojnocmapkodaaPlain
import Derived.Outline
namespace Go.Proofs.Ytdojnocmapkodaa
open Go.RowKit

theorem cI_snoc (l : List (Int × Int)) (x : Int × Int) : cI l ++ (#[Value.int .i64 x.1, Value.int .i64 x.2] : Array Value).toList = cI (l ++ [x]) := by simp [cI]
theorem it_snoc (l : List (Int × Int)) (k : Nat) (h : k < l.length) : l.take (k + 1) = l.take k ++ [it l k] := by rw [take_snoc l k h, it_lt h]

set_option maxHeartbeats 1000000 in
theorem theirs_any (l : List (Int × Int)) (A : Option Addr) (n c : Nat) (w : World) (hr : Rd w w.heap.size 2 A n (cI l)) (hn : n * 16 ≤ 140737488351232) :
    Calls Try.prog 21 #[.slice A n c] w (OwnList 64 2 (cI l) n w) := by
  have hl := rdI_len hr
  have HL := Lib.hid hl
  clear hl
  go_enter Try.func21, Try.ntmps21
  go_wp2
  go_loopw [3, 8] (fun v i wr => ∃ (k : Nat) (A' : Option Addr) (c' : Nat), k ≤ n ∧ i = .int .i64 k ∧ v = .slice A' k c' ∧ wr.ownsRow w.heap.size 64 2 (.slice A' k c') k (cI (l.take k)) ∧ Below w.heap.size w wr)
    (fun _ i _ => n - (intOf i).toNat)
  case atStart => exact ⟨0, none, 0, Nat.zero_le _, rfl, rfl, by simpa [cI] using own_nil _ _ _ _, Below.refl _ _⟩
  case round =>
    obtain ⟨k, A', c', hk, rfl, rfl, hown, hbel⟩ := hrel
    by_cases hlt : k < n
    · obtain ⟨b, off, rfl, hb, hc1, hc2⟩ := rdI_at (k := k) (hr.below hbel) hlt
      have hsz := hbel.size
      obtain ⟨x, hx⟩ : ∃ x, x = it l k := ⟨_, rfl⟩
      rw [← hx] at hc1 hc2
      have HX := Lib.hid hx
      clear hx
      have hbx := hbel.alloc hsz (.cells #[.int .i64 x.1, .int .i64 x.2] 27)
      go_wp2_with (at_builtin; refine wpList_app eS rfl _ _ rfl w.heap.size (wr.alloc (.cells #[.int .i64 x.1, .int .i64 x.2] 27)) A' k c' _ rfl (hown.alloc _) #[.int .i64 x.1, .int .i64 x.2] (by rw [World.size_alloc]; rfl) rfl (one_two _ _ _ _) (by omega) (by unfold maxLen; omega) hbx.size ?_; rintro g cap w1 ⟨o1, b1, g1, y1, z1⟩)
      rw [cI_snoc, HX.out, ← it_snoc l k (by rw [HL.out]; exact hlt)] at o1
      have b2 := hbx.trans b1
      clear hbx
      go_wp2
      go_roundw
      case rel => exact ⟨k + 1, some ⟨g, 0, none⟩, cap, by omega, by go_num, rfl, o1, b2⟩
      case measure => simp [intOf]; omega
    · obtain rfl : k = n := by omega
      rw [List.take_of_length_le (by rw [HL.out]; exact Nat.le_refl _)] at hown
      go_wp2
      go_ret
      exact ⟨A', c', rfl, hown, hbel⟩

set_option maxHeartbeats 1000000 in
theorem items_any (l : List (Int × Int)) (A : Option Addr) (n c : Nat) (w : World) (hr : Rd w w.heap.size 2 A n (cI l)) (hn : n * 16 ≤ 140737488351232) :
    Calls Try.prog 19 #[.slice A n c] w (OwnList 27 2 (cI l) n w) := by
  have hl := rdI_len hr
  have HL := Lib.hid hl
  clear hl
  go_enter Try.func19, Try.ntmps19
  go_wp2
  go_loopw [3, 8] (fun v i wr => ∃ (k : Nat) (A' : Option Addr) (c' : Nat), k ≤ n ∧ i = .int .i64 k ∧ v = .slice A' k c' ∧ wr.ownsRow w.heap.size 27 2 (.slice A' k c') k (cI (l.take k)) ∧ Below w.heap.size w wr)
    (fun _ i _ => n - (intOf i).toNat)
  case atStart => exact ⟨0, none, 0, Nat.zero_le _, rfl, rfl, by simpa [cI] using own_nil _ _ _ _, Below.refl _ _⟩
  case round =>
    obtain ⟨k, A', c', hk, rfl, rfl, hown, hbel⟩ := hrel
    by_cases hlt : k < n
    · obtain ⟨b, off, rfl, hb, hc1, hc2⟩ := rdI_at (k := k) (hr.below hbel) hlt
      have hsz := hbel.size
      obtain ⟨x, hx⟩ : ∃ x, x = it l k := ⟨_, rfl⟩
      rw [← hx] at hc1 hc2
      have HX := Lib.hid hx
      clear hx
      have hbx := hbel.alloc hsz (.cells #[.int .i64 x.1, .int .i64 x.2] 64)
      go_wp2_with (at_builtin; refine wpList_app eI rfl _ _ rfl w.heap.size (wr.alloc (.cells #[.int .i64 x.1, .int .i64 x.2] 64)) A' k c' _ rfl (hown.alloc _) #[.int .i64 x.1, .int .i64 x.2] (by rw [World.size_alloc]; rfl) rfl (one_two _ _ _ _) (by omega) (by unfold maxLen; omega) hbx.size ?_; rintro g cap w1 ⟨o1, b1, g1, y1, z1⟩)
      rw [cI_snoc, HX.out, ← it_snoc l k (by rw [HL.out]; exact hlt)] at o1
      have b2 := hbx.trans b1
      clear hbx
      go_wp2
      go_roundw
      case rel => exact ⟨k + 1, some ⟨g, 0, none⟩, cap, by omega, by go_num, rfl, o1, b2⟩
      case measure => simp [intOf]; omega
    · obtain rfl : k = n := by omega
      rw [List.take_of_length_le (by rw [HL.out]; exact Nat.le_refl _)] at hown
      go_wp2
      go_ret
      exact ⟨A', c', rfl, hown, hbel⟩
end Go.Proofs.Ytdojnocmapkodaa

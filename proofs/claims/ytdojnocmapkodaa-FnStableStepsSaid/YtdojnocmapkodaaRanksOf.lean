/- The contract of laws.ranksOf: the ranks of orders, as a new list. -/
import Derived.Test.YtdojnocmapkodaaElems
import Derived.Test.YtdojnocmapkodaaBefore
import Derived.Test.YtdojnocmapkodaaSteps
namespace Go.Proofs.Ytdojnocmapkodaa
open Go.RowKit
/-- A slice of slices of ints that a call made; the slices themselves lay there before. -/
def OwnTabs (ts : List Tab) (n : Nat) (w : World) (en : Ending) (w' : World) : Prop := ∃ A c, en = .returned (.slice A n c) ∧ RdS w' w'.heap.size A n ts ∧ n ≤ c ∧ Below w.heap.size w w'
theorem take_tabs (ts : List Tab) (k : Nat) (t : Tab) (h : ts[k]? = some t) : (ts.take k).map cT ++ (#[Value.slice t.a t.n t.c] : Array Value).toList = (ts.take (k + 1)).map cT := by
  obtain ⟨hk, rfl⟩ := List.getElem?_eq_some_iff.1 h
  rw [take_snoc ts k hk, List.map_append]
  rfl
set_option maxHeartbeats 1000000 in
theorem ranksOf_any (ts : List Tab) (A : Option Addr) (n c : Nat) (w : World) (hS : RdS w w.heap.size A n ts) (hn : n * 24 ≤ 140737488351232) :
    Calls Try.prog 22 #[.slice A n c] w (OwnTabs ts n w) := by
  have HL := Lib.hid hS.len
  go_enter Try.func22, Try.ntmps22
  go_wp2
  go_loopw [3, 8] (fun v i wr => ∃ (k : Nat) (A' : Option Addr) (c' : Nat), k ≤ n ∧ i = .int .i64 k ∧ v = .slice A' k c' ∧ wr.ownsRow w.heap.size 23 1 (.slice A' k c') k ((ts.take k).map cT) ∧ Below w.heap.size w wr)
    (fun _ i _ => n - (intOf i).toNat)
  case atStart => exact ⟨0, none, 0, Nat.zero_le _, rfl, rfl, by simpa using own_nil _ _ _ _, Below.refl _ _⟩
  case round =>
    obtain ⟨k, A', c', hk, rfl, rfl, hown, hbel⟩ := hrel
    by_cases hlt : k < n
    · obtain ⟨bs, os, t, rfl, ht, hct, _⟩ := (hS.on hbel).at_ hlt
      have HT := Lib.hid (take_tabs ts k t ht)
      obtain ⟨ta, tn, tc, R⟩ := t
      clear ht
      dsimp only at hct
      have hbx := hbel.alloc hbel.size (.cells #[.slice ta tn tc] 25)
      go_wp2_with (at_builtin; refine wpList_app eR rfl _ _ rfl w.heap.size (wr.alloc (.cells #[.slice ta tn tc] 25)) A' k c' _ rfl (hown.alloc _) #[.slice ta tn tc] (by rw [World.size_alloc]; rfl) rfl (one_slice _ _ _) (by omega) (by unfold maxLen; omega) hbx.size ?_; rintro g cap w1 ⟨o1, b1, g1, y1, z1⟩)
      rw [HT.out] at o1
      have b2 := hbx.trans b1
      clear hbx
      go_wp2
      go_roundw
      case rel => exact ⟨k + 1, some ⟨g, 0, none⟩, cap, by omega, by go_num, rfl, o1, b2⟩
      case measure => simp [intOf]; omega
    · obtain rfl : k = n := by omega
      rw [List.take_of_length_le (by rw [HL.out]; exact Nat.le_refl _)] at hown
      have ho : RdS wr wr.heap.size A' k ts := ⟨Rd.of_own hown, fun t ht => (hS.2 t ht).on hbel⟩
      have hle := own_le hown
      clear hown
      go_wp2
      go_ret
      exact ⟨A', c', rfl, ho, hle, hbel⟩
end Go.Proofs.Ytdojnocmapkodaa

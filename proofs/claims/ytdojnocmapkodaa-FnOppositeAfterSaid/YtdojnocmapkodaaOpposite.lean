/- The contract of laws.opposite: the order the other way round. -/
import Derived.Test.YtdojnocmapkodaaDigits
namespace Go.Proofs.Ytdojnocmapkodaa
open Go.RowKit
theorem xor_i64 (y : Int) (h1 : -9223372036854775808 ≤ y) (h2 : y ≤ 9223372036854775807) : bits .xor .i64 (-1) y = -y - 1 := by
  show IntKind.i64.wrap ((BitVec.ofInt 64 (-1) ^^^ BitVec.ofInt 64 y).toNat : Int) = _
  rw [show BitVec.ofInt 64 (-1) = BitVec.allOnes 64 by decide, BitVec.allOnes_xor, BitVec.toNat_not, BitVec.toNat_ofInt, IntKind.wrap_i64]
  omega
/-- A rank, inverted bit by bit. -/
def inv1 (r : Int) : Int := -r - 1
def opp (R : List Int) : List Int := R.map inv1
theorem opp_snoc (R : List Int) (k : Nat) (h : k < R.length) : opp (R.take (k + 1)) = opp (R.take k) ++ [inv1 (R[k]?.getD 0)] := by
  unfold opp
  rw [take_snocD R k 0 h, List.map_append]
  rfl
theorem opp_rk (R : List Int) (k : Int) (h0 : 0 ≤ k) (h1 : k < R.length) : rk (opp R) k = inv1 (rk R k) := by
  rw [rk_in h0, rk_in h0]
  unfold opp
  rw [List.getElem?_map, List.getElem?_eq_getElem (by omega)]
  rfl

set_option linter.unusedSimpArgs false in
set_option maxHeartbeats 2000000 in
theorem opposite_any (R : List Int) (A : Option Addr) (m c : Nat) (w : World) (hr : Rd w w.heap.size 1 A m (cZ R)) (hz : ∀ y ∈ R, -9223372036854775808 ≤ y ∧ y ≤ 9223372036854775807) (hm : m * 8 ≤ 140737488351232) :
    Calls Try.prog 23 #[.agg #[.slice A m c]] w (OwnOrder (opp R) m w) := by
  have HL := Lib.hid (rdZ_len hr)
  have hb3 := below_alloc3 w (.cells #[.slice A m c] 25) (.cells #[.slice none 0 0] 25) (.cells #[.slice none 0 0] 25)
  go_enter Try.func23, Try.ntmps23
  go_wp2
  go_loopw [9] (fun s wr => ∃ (k : Nat) (B : Option Addr) (d : Nat), k ≤ m ∧ s = .int .i64 k ∧ wr.cell? ⟨w.heap.size + 1 + 1, 0, none⟩ = some (.slice B k d) ∧ wr.frozen? ⟨w.heap.size + 1 + 1, 0, none⟩ = false ∧
    wr.cell? ⟨w.heap.size + 1, 0, none⟩ = some (.slice none 0 0) ∧ wr.frozen? ⟨w.heap.size + 1, 0, none⟩ = false ∧ wr.ownsRow (w.heap.size + 3) 3 1 (.slice B k d) k (cZ (opp (R.take k))) ∧ Below w.heap.size w wr ∧ w.heap.size + 3 ≤ wr.heap.size) (fun s _ => m - (intOf s).toNat)
  case atStart => exact ⟨0, none, 0, Nat.zero_le _, rfl, by simp [go_sem], by simp [go_sem], by simp [go_sem], by simp [go_sem], by simpa [cZ, opp] using own_nil _ _ _ _, hb3, by simp⟩
  case round =>
    obtain ⟨k, B, d, hk, rfl, hq, hf, hq0, hf0, hown, hbel, hsz⟩ := hrel
    by_cases hlt : k < m
    · obtain ⟨b, off, rfl, _, hc⟩ := rdZ_at (k := k) (hr.below hbel) hlt
      have T := Lib.hid (opp_snoc R k (by rw [HL.out]; exact hlt))
      have hb : -9223372036854775808 ≤ R[k]?.getD 0 ∧ R[k]?.getD 0 ≤ 9223372036854775807 := by
        have hk' : k < R.length := by rw [HL.out]; exact hlt
        rw [List.getElem?_eq_getElem hk']
        exact hz _ (List.getElem_mem hk')
      obtain ⟨y, hy⟩ : ∃ y, y = R[k]?.getD 0 := ⟨_, rfl⟩
      rw [← hy] at hc T hb
      clear hy
      have HX : Hid (bits .xor .i64 (-1) y = inv1 y) := xor_i64 y hb.1 hb.2
      clear hb
      go_wp2_with (at_builtin; refine wpList_app eZ rfl _ _ rfl (w.heap.size + 3) wr B k d _ rfl hown #[.int .i64 (bits .xor .i64 (-1) y)] rfl rfl (one_int _ _) (by omega) (by unfold maxLen; omega) hsz ?_; rintro g cap w3 ⟨o3, bl3, _, _, _⟩; rw [cZ_snoc, HX.out, ← T.out] at o3; have p1 : w3.cell? ⟨w.heap.size + 1 + 1, 0, none⟩ = some (.slice B k d) := (bl3.cell (by show w.heap.size + 1 + 1 < w.heap.size + 3; omega)).trans hq; have p2 : w3.frozen? ⟨w.heap.size + 1 + 1, 0, none⟩ = false := (bl3.frozen (by show w.heap.size + 1 + 1 < w.heap.size + 3; omega)).trans hf; have p3 : w3.cell? ⟨w.heap.size + 1, 0, none⟩ = some (.slice none 0 0) := (bl3.cell (by show w.heap.size + 1 < w.heap.size + 3; omega)).trans hq0; have p4 : w3.frozen? ⟨w.heap.size + 1, 0, none⟩ = false := (bl3.frozen (by show w.heap.size + 1 < w.heap.size + 3; omega)).trans hf0; have b3 : Below w.heap.size w w3 := hbel.trans (bl3.mono (by omega)); have s3 : w.heap.size + 3 ≤ w3.heap.size := Nat.le_trans hsz bl3.size)
      clear hown hq hf hq0 hf0
      have z1 : (w3.setCell ⟨w.heap.size + 1 + 1, 0, none⟩ (.slice (some ⟨g, 0, none⟩) (k + 1) cap)).cell? ⟨w.heap.size + 1 + 1, 0, none⟩ = some (.slice (some ⟨g, 0, none⟩) (k + 1) cap) := by simp [go_sem, p1]
      have z2 : (w3.setCell ⟨w.heap.size + 1 + 1, 0, none⟩ (.slice (some ⟨g, 0, none⟩) (k + 1) cap)).frozen? ⟨w.heap.size + 1 + 1, 0, none⟩ = false := by simp [go_sem, p2]
      have z3 : (w3.setCell ⟨w.heap.size + 1 + 1, 0, none⟩ (.slice (some ⟨g, 0, none⟩) (k + 1) cap)).cell? ⟨w.heap.size + 1, 0, none⟩ = some (.slice none 0 0) := (World.cell?_setCell_far _ _ _ _ (by simp)).trans p3
      have z4 : (w3.setCell ⟨w.heap.size + 1 + 1, 0, none⟩ (.slice (some ⟨g, 0, none⟩) (k + 1) cap)).frozen? ⟨w.heap.size + 1, 0, none⟩ = false := by simp [go_sem, p4]
      have z5 := ownsRow_setCell_below o3 (a := ⟨w.heap.size + 1 + 1, 0, none⟩) (by show w.heap.size + 1 + 1 < w.heap.size + 3; omega) (.slice (some ⟨g, 0, none⟩) (k + 1) cap)
      have z6 := b3.setCell (p := ⟨w.heap.size + 1 + 1, 0, none⟩) (by show w.heap.size ≤ w.heap.size + 1 + 1; omega) (.slice (some ⟨g, 0, none⟩) (k + 1) cap)
      have z7 : w.heap.size + 3 ≤ (w3.setCell ⟨w.heap.size + 1 + 1, 0, none⟩ (.slice (some ⟨g, 0, none⟩) (k + 1) cap)).heap.size := by simpa using s3
      generalize w3.setCell ⟨w.heap.size + 1 + 1, 0, none⟩ (.slice (some ⟨g, 0, none⟩) (k + 1) cap) = w4 at z1 z2 z3 z4 z5 z6 z7 ⊢
      clear p1 p2 p3 p4 b3 s3 o3
      go_roundw
      case rel => exact ⟨k + 1, _, _, by omega, by go_num, z1, z2, z3, z4, z5, z6, z7⟩
      case measure => simp [intOf]; omega
    · obtain rfl : k = m := by omega
      rw [List.take_of_length_le (by rw [HL.out]; exact Nat.le_refl _)] at hown
      have o2 : (wr.setCell ⟨w.heap.size + 1, 0, none⟩ (.slice B k d)).ownsRow w.heap.size 3 1 (.slice B k d) k (cZ (opp R)) := own_base (ownsRow_setCell_below hown (a := ⟨w.heap.size + 1, 0, none⟩) (by show w.heap.size + 1 < w.heap.size + 3; omega) _) (by omega)
      have b2 := hbel.setCell (p := ⟨w.heap.size + 1, 0, none⟩) (by show w.heap.size ≤ w.heap.size + 1; omega) (.slice B k d)
      have HO := Lib.hid o2
      clear o2 hown
      go_wp2
      exact bodyPost_ret (v := .agg #[.slice B k d]) (by simp [results, Try.results23, go_sem, hq0]) rfl ⟨B, d, rfl, HO.out, b2⟩
end Go.Proofs.Ytdojnocmapkodaa

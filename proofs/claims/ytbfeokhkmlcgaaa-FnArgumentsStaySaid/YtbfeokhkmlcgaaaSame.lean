/- The contract of laws.same, at two lists of items that are the same: true. -/
import Derived.Test.YtbfeokhkmlcgaaaTheirs
import Derived.RegionTactic
import Derived.Laws.StructEq
namespace Go.Proofs.Ytbfeokhkmlcgaaa
open Go.RowKit
theorem item_ne (a b : Int) (w : World) : (binOp .neq 28 (.agg #[.int .i64 a, .int .i64 b]) (.agg #[.int .i64 a, .int .i64 b])).run Try.prog w = .ok (.bool false) w := by
  have h1 : Try.prog.underlying 28 = some (.struct (Try.prog.fieldsOf 28)) := by kernel_rfl
  have h2 : Try.prog.stoodInHeld 28 = false := by kernel_rfl
  have h3 : (Try.prog.fieldsOf 28).toList.map (fun f => (f.type, f.offset, f.name == "_")) = [(3, 0, false), (3, 1, false)] := by kernel_rfl
  rw [run_neq_struct, run_equalIn_agg w 9999 _ _ _ h1 h2]
  generalize (Try.prog.fieldsOf 28).toList = fs at h3
  rcases fs with _ | ⟨f, _ | ⟨g, _ | ⟨_, _⟩⟩⟩
  · simp at h3
  · simp at h3
  · simp at h3
    obtain ⟨⟨f1, f2, f3⟩, g1, g2, g3⟩ := h3
    simp [Op.eqFields, f1, f2, f3, g1, g2, g3, go_sem, Try.underlying3]
  · simp at h3
theorem item_guard (x y : Operand) (a b : Int) (w : World) : (eqGuard .neq 28 x y (.agg #[.int .i64 a, .int .i64 b]) (.agg #[.int .i64 a, .int .i64 b])).run Try.prog w = .ok () w := run_eqGuard_agg w _ _ _ _ _ _ (by kernel_rfl)

set_option maxHeartbeats 2000000 in
theorem same_items (l : List (Int × Int)) (A B : Option Addr) (n c k : Nat) (w : World) (ha : Rd w w.heap.size 2 A n (cI l)) (hb : Rd w w.heap.size 2 B n (cI l)) (hn : n ≤ 9223372036854775806) :
    Calls Try.prog 20 #[.slice A n c, .slice B n k] w fun e w' => e = .returned (.bool true) ∧ Below w.heap.size w w' := by
  go_enter Try.func20, Try.ntmps20
  go_wp2
  go_loopw [13] (fun v wr => ∃ i : Nat, i ≤ n ∧ v = .int .i64 i ∧ Below w.heap.size w wr) (fun v _ => n - (intOf v).toNat)
  case atStart => exact ⟨0, Nat.zero_le _, rfl, Below.refl _ _⟩
  case round =>
    obtain ⟨i, hi, rfl, hbel⟩ := hrel
    by_cases hlt : i < n
    · obtain ⟨b1, o1, rfl, _, x1, y1⟩ := rdI_at (k := i) (ha.on hbel) hlt
      obtain ⟨b2, o2, rfl, _, x2, y2⟩ := rdI_at (k := i) (hb.on hbel) hlt
      clear ha hb
      have i0 : (0 : Int) ≤ (i : Int) := Int.natCast_nonneg _
      have i1 : (i : Int) < (n : Int) := by omega
      go_wp2_with fail
      have hne := fun w => item_ne (it l i).1 (it l i).2 w
      have hgu := fun w x y => item_guard x y (it l i).1 (it l i).2 w
      go_region
      all_goals go_wp2
      all_goals go_roundw
      all_goals first
        | exact ⟨i + 1, by omega, by go_num, hbel.drew⟩
        | (simp [intOf]; omega)
    · obtain rfl : i = n := by omega
      go_wp2
      go_ret
      exact ⟨rfl, hbel⟩
end Go.Proofs.Ytbfeokhkmlcgaaa

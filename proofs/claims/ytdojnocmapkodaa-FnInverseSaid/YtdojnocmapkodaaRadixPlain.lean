/- Plain mathematics: the ranks of keys by a digit; sorting by each digit, the lowest one first. Nothing of the program stands here. -/
import Derived.Test.YtdojnocmapkodaaPlaces
import Derived.Test.YtdojnocmapkodaaLex
namespace Go.Proofs.Ytdojnocmapkodaa
/-- The ranks of the keys below many by a digit. -/
def digs (many unit base : Nat) : List Int := (List.range many).map fun k => ((k / unit % base : Nat) : Int)
theorem digs_len (many unit base : Nat) : (digs many unit base).length = many := by simp [digs]
theorem digs_succ (many unit base : Nat) : digs (many + 1) unit base = digs many unit base ++ [((many / unit % base : Nat) : Int)] := by
  unfold digs; rw [List.range_succ, List.map_append]; rfl
/-- A key as a number; keys beyond count as 0. -/
def kn (many : Nat) (k : Int) : Nat := if 0 ≤ k ∧ k < many then k.toNat else 0
theorem kn_lt {many : Nat} (h : 0 < many) (k : Int) : kn many k < many := by
  unfold kn; split <;> omega
theorem rk_digs (many unit base : Nat) (k : Int) : rk (digs many unit base) k = ((kn many k / unit % base : Nat) : Int) := by
  unfold kn
  split
  · rename_i h
    rw [rk_in h.1]
    unfold digs
    rw [List.getElem?_map, List.getElem?_range (by omega)]
    simp
  · rename_i h
    rw [Nat.zero_div, Nat.zero_mod]
    by_cases h0 : k < 0
    · exact rk_neg h0
    · exact rk_ge (by rw [digs_len]; omega)
theorem rk_digs_id (many : Nat) (h : 0 < many) (k : Int) : rk (digs many 1 many) k = (kn many k : Int) := by
  rw [rk_digs, Nat.div_one, Nat.mod_eq_of_lt (kn_lt h k)]
theorem lex_num (B s s' r r' : Nat) (hr : r < B) (hr' : r' < B) : (r + B * s ≤ r' + B * s') ↔ (s < s' ∨ s = s' ∧ r ≤ r') := by
  rcases Nat.lt_trichotomy s s' with h | rfl | h
  · have : B * (s + 1) ≤ B * s' := Nat.mul_le_mul_left B h
    rw [Nat.mul_add, Nat.mul_one] at this
    exact ⟨fun _ => .inl h, fun _ => by omega⟩
  · constructor
    · intro h; exact .inr ⟨rfl, by omega⟩
    · rintro (h | ⟨_, h⟩) <;> omega
  · have : B * (s' + 1) ≤ B * s := Nat.mul_le_mul_left B h
    rw [Nat.mul_add, Nat.mul_one] at this
    constructor
    · intro h; omega
    · rintro (h | ⟨h, _⟩) <;> omega
theorem steps_snoc (Rs : List (List Int)) (R : List Int) (l : List (Int × Int)) : steps (Rs ++ [R]) l = stab (fun x => rk R x.1) (steps Rs l) := by simp [steps]
/-- After j digits the list is sorted by the keys' lowest j digits. -/
theorem radix_step (many b : Nat) (hb : 0 < b) (l : List (Int × Int)) : ∀ j : Nat, steps ((List.range j).map fun i => digs many (b ^ i) b) l = stab (fun x => ((kn many x.1 % b ^ j : Nat) : Int)) l
  | 0 => by
    rw [List.range_zero, List.map_nil]
    show l = _
    refine (stab_of_srt _ _ ?_).symm
    refine List.pairwise_iff_getElem.2 fun i j _ _ _ => ?_
    simp [Nat.mod_one]
  | j + 1 => by
    rw [List.range_succ, List.map_append, List.map_cons, List.map_nil, steps_snoc, radix_step many b hb l j]
    refine stab_two _ _ _ l fun x y => ?_
    simp only [rk_digs]
    rw [Nat.pow_succ, Nat.mod_mul, Nat.mod_mul]
    have h1 := Nat.mod_lt (kn many x.1) (Nat.pow_pos (n := j) hb)
    have h2 := Nat.mod_lt (kn many y.1) (Nat.pow_pos (n := j) hb)
    have := lex_num (b ^ j) (kn many x.1 / b ^ j % b) (kn many y.1 / b ^ j % b) _ _ h1 h2
    omega
theorem radix_law (b d : Nat) (hb : 0 < b) (l : List (Int × Int)) : steps ((List.range d).map fun i => digs (b ^ d) (b ^ i) b) l = stab (fun x => rk (digs (b ^ d) 1 (b ^ d)) x.1) l := by
  rw [radix_step]
  · apply stab_congr
    intro z _
    rw [rk_digs_id _ (Nat.pow_pos hb), Nat.mod_eq_of_lt (kn_lt (Nat.pow_pos hb) _)]
  · exact hb
end Go.Proofs.Ytdojnocmapkodaa

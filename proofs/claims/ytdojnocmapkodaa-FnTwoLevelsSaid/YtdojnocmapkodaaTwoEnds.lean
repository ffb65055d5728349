/- Plain mathematics: the last elements of a list's parts, and the parts themselves, as lists that are searched. Nothing of the program stands here. -/
import Derived.Test.YtdojnocmapkodaaTwoPlain
import Derived.Test.YtdojnocmapkodaaCountsPlain
namespace Go.Proofs.Ytdojnocmapkodaa
/-- The last elements of the first j parts. -/
def endsL (m : List (Int × Int)) (n s j : Nat) : List (Int × Int) := (List.range j).map fun t => it m (min (t * s + s) n - 1)
theorem endsL_snoc (m : List (Int × Int)) (n s j : Nat) : endsL m n s (j + 1) = endsL m n s j ++ [it m (min (j * s + s) n - 1)] := by
  unfold endsL
  rw [List.range_succ, List.map_append]
  rfl
theorem it_ends {m : List (Int × Int)} {n s j t : Nat} (h : t < j) : it (endsL m n s j) t = it m (min (t * s + s) n - 1) := by
  simp [endsL, it, h]
theorem step_congr {p q : Nat → Bool} {n s : Nat} (h : Step p n s) (e : ∀ j, j < n → q j = p j) : Step q n s := ⟨h.1, fun j hj => by rw [e j hj]; exact h.2 j hj⟩
theorem two_ends {P : Int × Int → Bool} {m : List (Int × Int)} {n s f : Nat} (hs : 0 < s) (h : Step (fun i => P (it m i)) n f) (hlt : f < n) :
    Step (fun j => P (it (endsL m n s (parts n s)) j)) (parts n s) (f / s) := step_congr (ends_step hs h hlt) fun j hj => by
  show P _ = P _
  rw [it_ends hj]
theorem two_none {P : Int × Int → Bool} {m : List (Int × Int)} {n s : Nat} (hs : 0 < s) (h : Step (fun i => P (it m i)) n n) :
    Step (fun j => P (it (endsL m n s (parts n s)) j)) (parts n s) (parts n s) := step_congr (ends_none hs h) fun j hj => by
  show P _ = P _
  rw [it_ends hj]
theorem it_part {m : List (Int × Int)} {a k i : Nat} (h : i < k) : it ((m.drop a).take k) i = it m (a + i) := by
  simp [it, h]
theorem two_part {P : Int × Int → Bool} {m : List (Int × Int)} {n s f : Nat} (hs : 0 < s) (h : Step (fun i => P (it m i)) n f) (hlt : f < n) :
    Step (fun i => P (it ((m.drop (f / s * s)).take (min (f / s * s + s) n - f / s * s)) i)) (min (f / s * s + s) n - f / s * s) (f - f / s * s) := step_congr (part_step h hlt hs) fun j hj => by
  show P _ = P _
  rw [it_part hj]
/-- All that the two searches answer, of a place f of the whole list: a is where its part begins, e where it ends. -/
theorem two_all {P : Int × Int → Bool} {m : List (Int × Int)} {n s f : Nat} (hs : 0 < s) (h : Step (fun i => P (it m i)) n f) :
    (f = n ∧ Step (fun j => P (it (endsL m n s (parts n s)) j)) (parts n s) (parts n s)) ∨
    (∃ p a e r, f < n ∧ p < parts n s ∧ p * s = a ∧ (p + 1) * s = a + s ∧ e = min (a + s) n ∧ a < e ∧ a + r = f ∧ r < e - a ∧ Step (fun j => P (it (endsL m n s (parts n s)) j)) (parts n s) p ∧
      Step (fun i => P (it ((m.drop a).take (e - a)) i)) (e - a) r) := by
  by_cases hf : f < n
  · right
    have h1 := Nat.div_mul_le_self f s
    have h2 : f < f / s * s + s := by
      have := Nat.lt_div_mul_add (a := f) hs
      omega
    refine ⟨f / s, f / s * s, min (f / s * s + s) n, f - f / s * s, hf, (parts_lt hs).2 (by omega), rfl, by rw [Nat.add_mul, Nat.one_mul], rfl, by omega, by omega, by omega, two_ends hs h hf, two_part hs h hf⟩
  · left
    have hfn : f = n := by have := h.1; omega
    subst hfn
    exact ⟨rfl, two_none hs h⟩
theorem parts_le {n s j : Nat} (hs : 0 < s) (h : j * s < n) : j < n := by
  have := Nat.le_mul_of_pos_right j hs
  omega
end Go.Proofs.Ytdojnocmapkodaa

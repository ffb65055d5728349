/- Plain mathematics: a table searched part by part. Nothing of the program stands here. -/
import Derived.Test.YtdojnocmapkodaaPlain
namespace Go.Proofs.Ytdojnocmapkodaa
/-- How many parts of a size n elements make. -/
def parts (n size : Nat) : Nat := (n + size - 1) / size
theorem parts_lt {n size j : Nat} (hs : 0 < size) : j < parts n size ↔ j * size < n := by
  unfold parts
  rw [Nat.lt_iff_add_one_le, Nat.le_div_iff_mul_le hs, Nat.add_mul, Nat.one_mul]
  omega
/-- The table of the parts' last elements. -/
theorem ends_step {p : Nat → Bool} {n s size : Nat} (hs : 0 < size) (h : Step p n s) (hlt : s < n) : Step (fun j => p (min (j * size + size) n - 1)) (parts n size) (s / size) := by
  have h1 := Nat.div_mul_le_self s size
  refine ⟨Nat.le_of_lt ((parts_lt hs).2 (by omega)), fun j hj => ?_⟩
  have hj' := (parts_lt hs).1 hj
  show p _ = _
  rw [h.2 _ (by omega), decide_eq_decide]
  constructor
  · intro hle
    have : s < j * size + size := by omega
    have h3 : s / size < j + 1 := by rw [Nat.div_lt_iff_lt_mul hs, Nat.add_mul, Nat.one_mul]; exact this
    omega
  · intro hle
    have h3 : s / size < j + 1 := by omega
    rw [Nat.div_lt_iff_lt_mul hs, Nat.add_mul, Nat.one_mul] at h3
    omega
theorem ends_none {p : Nat → Bool} {n size : Nat} (hs : 0 < size) (h : Step p n n) : Step (fun j => p (min (j * size + size) n - 1)) (parts n size) (parts n size) := by
  refine ⟨Nat.le_refl _, fun j hj => ?_⟩
  have hj' := (parts_lt hs).1 hj
  show p _ = _
  rw [h.2 _ (by omega), decide_eq_decide]
  omega
theorem part_step {p : Nat → Bool} {n s size : Nat} (h : Step p n s) (hlt : s < n) (hs : 0 < size) : Step (fun i => p (s / size * size + i)) (min (s / size * size + size) n - s / size * size) (s - s / size * size) := by
  have h1 := Nat.div_mul_le_self s size
  have h2 : s < s / size * size + size := by
    have := Nat.lt_div_mul_add (a := s) hs
    omega
  generalize s / size * size = q at h1 h2 ⊢
  refine ⟨by omega, fun j hj => ?_⟩
  show p _ = _
  rw [h.2 _ (by omega), decide_eq_decide]
  omega
end Go.Proofs.Ytdojnocmapkodaa

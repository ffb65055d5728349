/- Plain mathematics: the smallest key that is not less than k + 1 of them; a permutation and its inverse by sorting. Nothing of the program stands here. -/
import Derived.Test.YtdojnocmapkodaaPlaces
import Derived.Test.YtdojnocmapkodaaPlain
namespace Go.Proofs.Ytdojnocmapkodaa
variable {α : Type}
theorem kth_iff (r : α → Int) (m : List α) (h : Srt r m) (k : Nat) (hk : k < m.length) (v : Int) : k < m.countP (fun z => decide (r z ≤ v)) ↔ r m[k] ≤ v := by
  have hsp : m = m.take k ++ m.drop k := (List.take_append_drop k m).symm
  constructor
  · intro hlt
    rcases Int.lt_or_le v (r m[k]) with hc | hc
    · exfalso
      have h0 : (m.drop k).countP (fun z => decide (r z ≤ v)) = 0 := by
        rw [List.countP_eq_zero]
        intro y hy
        obtain ⟨j, hj, rfl⟩ := List.mem_iff_getElem.1 hy
        rw [List.getElem_drop]
        rcases Nat.eq_zero_or_pos j with rfl | hp
        · simp; exact hc
        · have := List.pairwise_iff_getElem.1 h k (k + j) hk (by rw [List.length_drop] at hj; omega) (by omega)
          simp; omega
      rw [hsp, List.countP_append, h0] at hlt
      have := List.countP_le_length (p := fun z => decide (r z ≤ v)) (l := m.take k)
      rw [List.length_take] at this
      omega
    · exact hc
  · intro hle
    have h1 : (m.take (k + 1)).countP (fun z => decide (r z ≤ v)) = (m.take (k + 1)).length := by
      rw [List.countP_eq_length]
      intro y hy
      obtain ⟨j, hj, rfl⟩ := List.mem_iff_getElem.1 hy
      have hj' : j < k + 1 := by rw [List.length_take] at hj; omega
      rw [List.getElem_take]
      rcases Nat.lt_or_ge j k with hlt | hge
      · have := List.pairwise_iff_getElem.1 h j k (by omega) hk hlt
        simp; omega
      · obtain rfl : j = k := by omega
        simpa using hle
    have h2 : m.countP (fun z => decide (r z ≤ v)) = (m.take (k + 1)).countP (fun z => decide (r z ≤ v)) + (m.drop (k + 1)).countP (fun z => decide (r z ≤ v)) := by
      rw [← List.countP_append, List.take_append_drop]
    rw [List.length_take] at h1
    omega
/-- Elements whose ranks are 0 to n - 1, each once, stand in the stable list each at its rank. -/
theorem perm_place (r : α → Int) (l : List α) (hp : (l.map r).Perm ((List.range l.length).map fun (k : Nat) => (k : Int))) (i : Nat) (hi : i < l.length) : ∃ k : Nat, r l[i] = (k : Int) ∧ k < l.length ∧ (stab r l)[k]? = some l[i] := by
  have hm : r l[i] ∈ (List.range l.length).map fun (k : Nat) => (k : Int) := hp.mem_iff.1 (List.mem_map.2 ⟨_, List.getElem_mem hi, rfl⟩)
  obtain ⟨k, hk, e⟩ := List.mem_map.1 hm
  rw [List.mem_range] at hk
  refine ⟨k, e.symm, hk, ?_⟩
  have hpl := stab_place r l i hi
  have h1 : cLt r (r l[i]) l = k := by
    have : cLt r (r l[i]) l = (l.map r).countP fun z => decide (z < r l[i]) := by unfold cLt; rw [List.countP_map]; rfl
    rw [this, hp.countP_eq, List.countP_map, ← e]
    have h2 : (List.range l.length).countP ((fun z => decide (z < (k : Int))) ∘ fun (k : Nat) => (k : Int)) = k - 0 := countP_all _ _ 0 k (Nat.zero_le _) (by rw [List.length_range]; omega) fun j x hx => by
      obtain ⟨hj, rfl⟩ := List.getElem?_eq_some_iff.1 hx
      simp
    omega
  have h2 : cEq r (r l[i]) (l.take i) = 0 := by
    unfold cEq
    rw [List.countP_eq_zero]
    intro y hy
    obtain ⟨j, hj, rfl⟩ := List.mem_iff_getElem.1 hy
    have hj' : j < i := by rw [List.length_take] at hj; omega
    rw [List.getElem_take]
    have hnd : (l.map r).Nodup := hp.nodup_iff.2 (by
      rw [List.nodup_iff_pairwise_ne, List.pairwise_map]
      exact (List.nodup_iff_pairwise_ne.1 List.nodup_range).imp fun {a b} h e => h (by omega))
    have := List.pairwise_iff_getElem.1 (List.nodup_iff_pairwise_ne.1 hnd) j i (by simp; omega) (by simpa using hi) hj'
    simpa using this
  rw [h1, h2, Nat.add_zero] at hpl
  exact hpl
end Go.Proofs.Ytdojnocmapkodaa

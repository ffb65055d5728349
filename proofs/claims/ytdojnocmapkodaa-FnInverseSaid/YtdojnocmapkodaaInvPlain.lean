/- Plain mathematics: of a permutation as tags the stable list by them is the inverse permutation. Nothing of the program stands here. -/
import Derived.Test.YtdojnocmapkodaaKthPlain
import Derived.Test.YtdojnocmapkodaaRadixPlain
namespace Go.Proofs.Ytdojnocmapkodaa
def swpq (l : List (Int × Int)) : List (Int × Int) := l.mapIdx fun i x => (x.2, (i : Int))
def plc (l : List (Int × Int)) : List (Int × Int) := l.mapIdx fun i x => (x.1, (i : Int))
theorem swpq_len (l : List (Int × Int)) : (swpq l).length = l.length := by simp [swpq]
theorem plc_len (l : List (Int × Int)) : (plc l).length = l.length := by simp [plc]
theorem swpq_snoc (l : List (Int × Int)) (x : Int × Int) : swpq (l ++ [x]) = swpq l ++ [(x.2, (l.length : Int))] := by simp [swpq]
theorem swpq_tags (l : List (Int × Int)) : (swpq l).map Prod.snd = (List.range l.length).map fun (k : Nat) => (k : Int) := by
  apply List.ext_getElem
  · simp [swpq]
  · intro i h1 h2
    simp [swpq]
theorem plc_tags (l : List (Int × Int)) : (plc l).map Prod.snd = (List.range l.length).map fun (k : Nat) => (k : Int) := by
  apply List.ext_getElem
  · simp [plc]
  · intro i h1 h2
    simp [plc]
theorem swpq_keys (l : List (Int × Int)) : (swpq l).map Prod.fst = l.map Prod.snd := by
  apply List.ext_getElem
  · simp [swpq]
  · intro i h1 h2
    simp [swpq]
theorem id_ranks (n : Nat) (S : List (Int × Int)) (hp : (S.map Prod.fst).Perm ((List.range n).map fun (k : Nat) => (k : Int))) : (S.map fun x => rk (digs n 1 (max n 1)) x.1) = S.map Prod.fst := by
  apply List.map_congr_left
  intro z hz
  have hm : z.1 ∈ (List.range n).map fun (k : Nat) => (k : Int) := hp.mem_iff.1 (List.mem_map.2 ⟨z, hz, rfl⟩)
  obtain ⟨k, hk, e⟩ := List.mem_map.1 hm
  rw [List.mem_range] at hk
  have h1 : max n 1 = n := by omega
  rw [h1, rk_digs_id n (by omega), ← e]
  unfold kn
  rw [if_pos (by omega)]
  omega
theorem inv_step (n : Nat) (m : List (Int × Int)) (hl : m.length = n) (hp : (m.map Prod.snd).Perm ((List.range n).map fun (k : Nat) => (k : Int))) (i : Nat) (hi : i < n) :
    ∃ k : Nat, (it m i).2 = (k : Int) ∧ k < n ∧ it (stab (fun x => rk (digs n 1 (max n 1)) x.1) (swpq m)) k = ((k : Int), (i : Int)) := by
  have hk : ((swpq m).map Prod.fst).Perm ((List.range n).map fun (k : Nat) => (k : Int)) := by rw [swpq_keys]; exact hp
  have hls : (swpq m).length = n := by rw [swpq_len, hl]
  have hi' : i < (swpq m).length := by rw [hls]; exact hi
  have him : i < m.length := by rw [hl]; exact hi
  have hr := id_ranks n (swpq m) hk
  obtain ⟨k, h1, h2, h3⟩ := perm_place (fun x : Int × Int => rk (digs n 1 (max n 1)) x.1) (swpq m) (by rw [hr, hls]; exact hk) i hi'
  have e : (swpq m)[i] = (m[i].2, (i : Int)) := by simp [swpq]
  have hrz : rk (digs n 1 (max n 1)) (swpq m)[i].1 = (swpq m)[i].1 := by
    have := congrArg (fun L => L[i]?) hr
    simpa [List.getElem?_map, List.getElem?_eq_getElem hi'] using this
  rw [hls] at h2
  have h4 : (swpq m)[i].1 = (k : Int) := by rw [← hrz]; exact h1
  rw [e] at h4
  refine ⟨k, by rw [it_lt him]; exact h4, h2, ?_⟩
  obtain ⟨h5, h6⟩ := List.getElem?_eq_some_iff.1 h3
  rw [it_lt h5, h6, e]
  exact Prod.ext h4 rfl
theorem inv_law (R : List Int) (l : List (Int × Int)) (n : Nat) (hl : l.length = n) (i : Nat) (hi : i < n) :
    ∃ k : Nat, (it (stab (fun x => rk R x.1) (plc l)) i).2 = (k : Int) ∧ k < n ∧ it (stab (fun x => rk (digs n 1 (max n 1)) x.1) (swpq (stab (fun x => rk R x.1) (plc l)))) k = ((k : Int), (i : Int)) ∧
      (it (stab (fun x => rk (digs n 1 (max n 1)) x.1) (swpq (stab (fun x => rk (digs n 1 (max n 1)) x.1) (swpq (stab (fun x => rk R x.1) (plc l)))))) i).2 = (k : Int) := by
  have hp : ((stab (fun x => rk R x.1) (plc l)).map Prod.snd).Perm ((List.range n).map fun (k : Nat) => (k : Int)) := by
    rw [← hl, ← plc_tags]
    exact (stab_perm _ _).map _
  have hpl : (stab (fun x => rk R x.1) (plc l)).length = n := by rw [stab_len, plc_len, hl]
  obtain ⟨k, h1, h2, h3⟩ := inv_step n _ hpl hp i hi
  have hq : ((stab (fun x => rk (digs n 1 (max n 1)) x.1) (swpq (stab (fun x => rk R x.1) (plc l)))).map Prod.snd).Perm ((List.range n).map fun (k : Nat) => (k : Int)) := by
    have := swpq_tags (stab (fun x => rk R x.1) (plc l))
    rw [hpl] at this
    rw [← this]
    exact (stab_perm _ _).map _
  have hql : (stab (fun x => rk (digs n 1 (max n 1)) x.1) (swpq (stab (fun x => rk R x.1) (plc l)))).length = n := by rw [stab_len, swpq_len, hpl]
  obtain ⟨j, g1, g2, g3⟩ := inv_step n _ hql hq k h2
  rw [h3] at g1
  have hj : j = i := by dsimp only at g1; omega
  subst hj
  exact ⟨k, h1, h2, h3, by rw [g3]⟩
end Go.Proofs.Ytdojnocmapkodaa

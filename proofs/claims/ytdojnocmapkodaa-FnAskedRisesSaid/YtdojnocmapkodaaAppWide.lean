/- One element appended to a row of one's own, near the largest sizes. -/
import Derived.Test.YtdojnocmapkodaaAppAll
import Derived.Deep.DeepAppendWide
namespace Go.Proofs.Ytdojnocmapkodaa
open Go.RowKit
section
variable {P : Program}
theorem run_one_wide {t e size bytes : Nat} (E : Elem P t e size bytes) (ty : TypeId) (base : Nat) (W : World) (v : Value) (n : Nat) (xs : List Value) (hown : W.ownsRow base e size v n xs) (ad : Addr) (news : List Value) (hl : news.length = 1 * size)
    (hnews : ∀ j u, news[j]? = some u → W.cell? (ad.add j) = some u) (h1 : ∀ u ∈ news, u.oneCell' = true) (hb : ((n + 1) + (n + 1) / 4 + 192) * bytes ≤ 281474976710656) (hn : n + 1 ≤ maxLen) (hbase : base ≤ W.heap.size) :
    ∃ v' w', (Builtin.append_ #[t, t] ty #[v, .slice (some ad) 1 1]).run P W = .ok v' w' ∧ All W base e size v (n + 1) (xs ++ news) v' w' := by
  obtain ⟨i, z, hi, hz, hsz, hby, hzc⟩ := E.info
  obtain ⟨v', w', hr, h2, h3, _⟩ := run_append_own_wide (P := P) W base t ty e i z size bytes E.ht hi hz hsz hby hzc E.pos v n xs hown ad 1 1 news hl hnews h1 hn hb hbase
  refine ⟨v', w', hr, h2, h3, ?_⟩
  subst hsz
  subst hby
  have hsmall : n + 1 ≤ 9223372036854775807 := by simp only [maxLen] at hn; omega
  rcases hown.2 with ⟨rfl, rfl⟩ | ⟨g, cap, cur, rfl, hbg, hg, hnc, hcm, hcs, htake⟩
  · have hr' := run_append_nil (P := P) W t ty e i z E.ht hi hz ad 1 1 news hl hnews (by omega) (by omega) (by have := hb; omega)
    rw [hr'] at hr
    injection hr with e1 _
    subst e1
    exact .inr rfl
  · by_cases hroom : n + 1 ≤ cap
    · have hfit : n * i.size + news.length ≤ cur.size := by rw [hl, hcs, ← Nat.add_mul]; exact Nat.mul_le_mul_right _ hroom
      have hr' := run_append_room (P := P) W t ty e i E.ht hi g n cap cur hg ad 1 1 news hl hnews h1 hroom hfit
      rw [hr'] at hr
      injection hr with e1 _
      subst e1
      exact .inl rfl
    · have hr' := run_append_grow (P := P) W t ty e i z E.ht hi hz ⟨g, 0, none⟩ n cap xs hown.1 (hown.cells (g := g) rfl) ad 1 1 news hl hnews (by omega) (by omega) (growslice_fits_wide (by omega) hb)
      rw [hr'] at hr
      injection hr with e1 _
      subst e1
      exact .inr rfl
theorem wp_one_wide {t e size bytes : Nat} (E : Elem P t e size bytes) {o : Oper} {a : Act} {K : Act → World → Prop} {Q : Exit → Act → World → Prop} (s x : Operand)
    (ho : o.op = .call { callee := .builtin .append, args := #[s, x], argTypes := #[t, t] })
    (base : Nat) (W : World) (v : Value) (n : Nat) (xs : List Value) (hs : a.eval s = v) (hown : W.ownsRow base e size v n xs) (ad : Addr) (news : List Value) (hx : a.eval x = .slice (some ad) 1 1) (hl : news.length = 1 * size)
    (hnews : ∀ j u, news[j]? = some u → W.cell? (ad.add j) = some u) (h1 : ∀ u ∈ news, u.oneCell' = true) (hb : ((n + 1) + (n + 1) / 4 + 192) * bytes ≤ 281474976710656) (hn : n + 1 ≤ maxLen) (hbase : base ≤ W.heap.size)
    (h : ∀ v' w', All W base e size v (n + 1) (xs ++ news) v' w' → K (a.put o.dst v') w') : o.wp P a W K Q := by
  obtain ⟨v', w', hrun, h2⟩ := run_one_wide E o.type base W v n xs hown ad news hl hnews h1 hb hn hbase
  unfold Oper.wp execOp
  simp only [ho, resolve, invoke, builtin, Sem.run_bind, Sem.run_pure, Result.andThen_ok, List.map_toArray, List.map_cons, List.map_nil, hs, hx, hrun]
  exact h v' w' h2
end
end Go.Proofs.Ytdojnocmapkodaa

/- Appends of a whole slice to a row of the call's own (a law over any program). -/
import Derived.Test.YtdojnocmapkodaaAppend
namespace Go.Proofs.Ytdojnocmapkodaa
open Go.RowKit
section
variable {P : Program}
/-- What an append of a whole slice leaves. -/
def All (W : World) (base e size : Nat) (v : Value) (n : Nat) (ys : List Value) (v' : Value) (w' : World) : Prop :=
  w'.ownsRow base e size v' n ys ∧ W.grownBy w' v.ownBlock ∧ (v'.ownBlock = v.ownBlock ∨ v'.ownBlock = some W.heap.size)
theorem run_all {t e size bytes : Nat} (E : Elem P t e size bytes) (ty : TypeId) (base : Nat) (W : World) (v : Value) (n : Nat) (xs : List Value) (hown : W.ownsRow base e size v n xs) (B : Nat) (A : Option Addr) (m c : Nat) (news : List Value) (hr : Rd W B size A m news)
    (h1 : ∀ u ∈ news, u.oneCell' = true) (hb : (n + m) * bytes ≤ 140737488355328) (hn : n + m ≤ maxLen) (hbase : base ≤ W.heap.size) :
    ∃ v' w', (Builtin.append_ #[t, t] ty #[v, .slice A m c]).run P W = .ok v' w' ∧ All W base e size v (n + m) (xs ++ news) v' w' := by
  obtain ⟨i, z, hi, hz, hsz, hby, hzc⟩ := E.info
  rcases A with _ | ad
  · have hm : m = 0 := by
      rcases Nat.eq_zero_or_pos m with h0 | h0
      · exact h0
      · obtain ⟨b, off, h, _⟩ := hr.2 h0
        cases h
    subst hm
    have hnl : news = [] := List.eq_nil_of_length_eq_zero (by simpa using hr.1)
    subst hnl
    refine ⟨v, W, ?_, by simpa using hown, World.grownBy.refl W _, .inl rfl⟩
    rcases hown.2 with ⟨rfl, rfl⟩ | ⟨g, cap, cur, rfl, _, _, hnc, _⟩
    · simp [Builtin.append_, run_underlying E.ht, sizeOf, typeInfo, hi, Builtin.lenOf, Builtin.firstCells]
    · simp [Builtin.append_, run_underlying E.ht, sizeOf, typeInfo, hi, Builtin.lenOf, Builtin.firstCells, hnc, storeCells]
  · have hcells : ∀ j u, news[j]? = some u → W.cell? (ad.add j) = some u := by
      intro j u hu
      rcases Nat.eq_zero_or_pos m with h0 | h0
      · subst h0
        have hnl : news = [] := List.eq_nil_of_length_eq_zero (by simpa using hr.1)
        subst hnl
        simp at hu
      · obtain ⟨b, off, h, _, hc⟩ := hr.2 h0
        injection h with h
        subst h
        have := hc j u hu
        rw [Go.WideShapes.add_plain]
        exact this
    obtain ⟨v', w', hrun, h2, h3, _, h5⟩ := run_append_own_at (P := P) W base t ty e i z size bytes E.ht hi hz hsz hby hzc E.pos v n xs hown ad m c news hr.1 hcells h1 hn hb hbase
    exact ⟨v', w', hrun, h2, h3, h5⟩
theorem wp_all {t e size bytes : Nat} (E : Elem P t e size bytes) {o : Oper} {a : Act} {K : Act → World → Prop} {Q : Exit → Act → World → Prop} (s x : Operand)
    (ho : o.op = .call { callee := .builtin .append, args := #[s, x], argTypes := #[t, t] })
    (base : Nat) (W : World) (v : Value) (n : Nat) (xs : List Value) (hs : a.eval s = v) (hown : W.ownsRow base e size v n xs) (B : Nat) (A : Option Addr) (m c : Nat) (news : List Value) (hx : a.eval x = .slice A m c) (hr : Rd W B size A m news)
    (h1 : ∀ u ∈ news, u.oneCell' = true) (hb : (n + m) * bytes ≤ 140737488355328) (hn : n + m ≤ maxLen) (hbase : base ≤ W.heap.size)
    (h : ∀ v' w', All W base e size v (n + m) (xs ++ news) v' w' → K (a.put o.dst v') w') : o.wp P a W K Q := by
  obtain ⟨v', w', hrun, h2⟩ := run_all E o.type base W v n xs hown B A m c news hr h1 hb hn hbase
  unfold Oper.wp execOp
  simp only [ho, resolve, invoke, builtin, Sem.run_bind, Sem.run_pure, Result.andThen_ok, List.map_toArray, List.map_cons, List.map_nil, hs, hx, hrun]
  exact h v' w' h2
theorem wpList_all {t e size bytes : Nat} (E : Elem P t e size bytes) {ops : Array Oper} {rest : List Oper} {o : Oper} {a : Act} {Q : Exit → Act → World → Prop} (hgd : o.guard = none) (s x : Operand)
    (ho : o.op = .call { callee := .builtin .append, args := #[s, x], argTypes := #[t, t] })
    (base : Nat) (W : World) (v : Value) (n : Nat) (xs : List Value) (hs : a.eval s = v) (hown : W.ownsRow base e size v n xs) (B : Nat) (A : Option Addr) (m c : Nat) (news : List Value) (hx : a.eval x = .slice A m c) (hr : Rd W B size A m news)
    (h1 : ∀ u ∈ news, u.oneCell' = true) (hb : (n + m) * bytes ≤ 140737488355328) (hn : n + m ≤ maxLen) (hbase : base ≤ W.heap.size)
    (h : ∀ v' w', All W base e size v (n + m) (xs ++ news) v' w' → wpList P ops Q rest (a.put o.dst v') w') : wpList P ops Q (o :: rest) a W :=
  wpList_plain hgd fun _ hK => wp_all E s x ho base W v n xs hs hown B A m c news hx hr h1 hb hn hbase fun v' w' h2 => hK _ _ (h v' w' h2)
end
theorem cI_one (l : List (Int × Int)) : ∀ u ∈ cI l, u.oneCell' = true := by
  intro u hu
  unfold cI at hu
  rw [List.mem_flatMap] at hu
  obtain ⟨x, _, h⟩ := hu
  simp at h
  rcases h with rfl | rfl <;> rfl
theorem cZ_one (l : List Int) : ∀ u ∈ cZ l, u.oneCell' = true := by
  intro u hu
  unfold cZ at hu
  rw [List.mem_map] at hu
  obtain ⟨x, _, rfl⟩ := hu
  rfl
end Go.Proofs.Ytdojnocmapkodaa

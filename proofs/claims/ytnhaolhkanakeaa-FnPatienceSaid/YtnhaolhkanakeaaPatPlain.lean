/- Plain mathematics: patience. Piles whose tops rise are as many as the longest rising part has elements. Nothing of the program stands here. -/
import Derived.Test.YtnhaolhkanakeaaPlain
namespace Go.Proofs.Ytnhaolhkanakeaa
variable {α : Type}

/-- May b follow a? (strict: it must be greater.) -/
def ltS (strict : Bool) (a b : Int) : Bool := decide (a < b) || (!strict && (a == b))
theorem ltS_true {a b : Int} : ltS true a b = true ↔ a < b := by simp [ltS]
theorem ltS_false {a b : Int} : ltS false a b = true ↔ a ≤ b := by simp [ltS]; omega
theorem ltS_le {s : Bool} {a b c : Int} (h : a ≤ b) (k : ltS s b c = true) : ltS s a c = true := by
  cases s
  · rw [ltS_false] at *; omega
  · rw [ltS_true] at *; omega
theorem ltS_trans {s : Bool} {a b c : Int} (h : ltS s a b = true) (k : ltS s b c = true) : ltS s a c = true := by
  cases s
  · rw [ltS_false] at *; omega
  · rw [ltS_true] at *; omega
theorem ltS_not {s : Bool} {a b : Int} (h : ¬ ltS s a b = true) : b ≤ a := by
  cases s
  · rw [ltS_false] at h; omega
  · rw [ltS_true] at h; omega
theorem ltS_after {s : Bool} {a b c : Int} (h : ¬ ltS s a b = true) (k : ltS s a c = true) : ltS s b c = true := ltS_le (ltS_not h) k

/-- One step of looking for the longest part that ends with an element of rank b. -/
def endStep (s : Bool) (b : Int) (e : Nat) (p : Int × Nat) : Nat := if ltS s p.1 b = true ∧ e ≤ p.2 then p.2 + 1 else e
def endF (s : Bool) (E : List (Int × Nat)) (b : Int) : Nat := E.foldl (endStep s b) 1
theorem endF_nil (s : Bool) (b : Int) : endF s [] b = 1 := rfl
theorem endF_snoc (s : Bool) (E : List (Int × Nat)) (b : Int) (p : Int × Nat) : endF s (E ++ [p]) b = endStep s b (endF s E b) p := by simp [endF]
/-- What the longest parts have that end with each element. -/
def endsF (s : Bool) (rs : List Int) : List (Int × Nat) := rs.foldl (fun E b => E ++ [(b, endF s E b)]) []
theorem endsF_snoc (s : Bool) (rs : List Int) (b : Int) : endsF s (rs ++ [b]) = endsF s rs ++ [(b, endF s (endsF s rs) b)] := by simp [endsF]
def bestF (E : List (Int × Nat)) : Nat := E.foldl (fun m p => if m < p.2 then p.2 else m) 0
theorem bestF_snoc (E : List (Int × Nat)) (p : Int × Nat) : bestF (E ++ [p]) = if bestF E < p.2 then p.2 else bestF E := by unfold bestF; rw [List.foldl_append]; rfl
theorem snoc_ind {motive : List α → Prop} (h0 : motive []) (h1 : ∀ l x, motive l → motive (l ++ [x])) (l : List α) : motive l := by
  have : ∀ m : List α, motive m.reverse := fun m => by
    induction m with
    | nil => exact h0
    | cons x m ih => rw [List.reverse_cons]; exact h1 _ _ ih
  have h := this l.reverse
  rwa [List.reverse_reverse] at h
theorem endsF_fst (s : Bool) (rs : List Int) : (endsF s rs).map Prod.fst = rs := by
  induction rs using snoc_ind with
  | h0 => rfl
  | h1 l x ih => rw [endsF_snoc, List.map_append, ih]; rfl
theorem endsF_len (s : Bool) (rs : List Int) : (endsF s rs).length = rs.length := by
  have := congrArg List.length (endsF_fst s rs)
  simpa using this
theorem endF_spec (s : Bool) (b : Int) (E : List (Int × Nat)) : (∀ p ∈ E, ltS s p.1 b = true → p.2 + 1 ≤ endF s E b) ∧ 1 ≤ endF s E b ∧ (endF s E b = 1 ∨ ∃ p ∈ E, ltS s p.1 b = true ∧ p.2 + 1 = endF s E b) := by
  induction E using snoc_ind with
  | h0 => exact ⟨fun p hp => (by cases hp), Nat.le_refl _, .inl rfl⟩
  | h1 E q ih =>
    obtain ⟨i1, i2, i3⟩ := ih
    rw [endF_snoc]
    unfold endStep
    split
    · rename_i hc
      refine ⟨fun p hp hl => ?_, by omega, .inr ⟨q, by simp, hc.1, rfl⟩⟩
      rcases List.mem_append.1 hp with hp | hp
      · have := i1 p hp hl; omega
      · simp at hp; subst hp; omega
    · rename_i hc
      refine ⟨fun p hp hl => ?_, i2, ?_⟩
      · rcases List.mem_append.1 hp with hp | hp
        · exact i1 p hp hl
        · simp at hp; subst hp
          by_cases h : endF s E b ≤ p.2
          · exact absurd ⟨hl, h⟩ hc
          · omega
      · rcases i3 with h | ⟨p, hp, h⟩
        · exact .inl h
        · exact .inr ⟨p, by simp [hp], h⟩
theorem endF_eq {s : Bool} {b : Int} {E : List (Int × Nat)} {m : Nat} (h1 : ∀ p ∈ E, ltS s p.1 b = true → p.2 ≤ m) (h2 : 0 < m → ∃ p ∈ E, ltS s p.1 b = true ∧ p.2 = m) : endF s E b = m + 1 := by
  obtain ⟨i1, i2, i3⟩ := endF_spec s b E
  rcases Nat.eq_zero_or_pos m with rfl | hm
  · rcases i3 with h | ⟨p, hp, hl, h⟩
    · exact h
    · have := h1 p hp hl; omega
  · obtain ⟨p, hp, hl, rfl⟩ := h2 hm
    have := i1 p hp hl
    rcases i3 with h | ⟨q, hq, hql, h⟩
    · omega
    · have := h1 q hq hql; omega
theorem bestF_spec (E : List (Int × Nat)) : (∀ p ∈ E, p.2 ≤ bestF E) ∧ (bestF E = 0 ∨ ∃ p ∈ E, p.2 = bestF E) := by
  induction E using snoc_ind with
  | h0 => exact ⟨fun p hp => (by cases hp), .inl rfl⟩
  | h1 E q ih =>
    obtain ⟨i1, i2⟩ := ih
    rw [bestF_snoc]
    split
    · refine ⟨fun p hp => ?_, .inr ⟨q, by simp, rfl⟩⟩
      rcases List.mem_append.1 hp with hp | hp
      · have := i1 p hp; omega
      · simp at hp; subst hp; omega
    · refine ⟨fun p hp => ?_, ?_⟩
      · rcases List.mem_append.1 hp with hp | hp
        · exact i1 p hp
        · simp at hp; subst hp; omega
      · rcases i2 with h | ⟨p, hp, h⟩
        · exact .inl h
        · exact .inr ⟨p, by simp [hp], h⟩

/-- An element is put on the first pile whose top it may not follow. -/
def pileAt (r : α → Int) (s : Bool) (P : List α) (x : α) : Nat := P.countP fun a => ltS s (r a) (r x)
def pileStep (r : α → Int) (s : Bool) (P : List α) (x : α) : List α := if pileAt r s P x = P.length then P ++ [x] else P.set (pileAt r s P x) x
def pilesF (r : α → Int) (s : Bool) (l : List α) : List α := l.foldl (pileStep r s) []
theorem pilesF_snoc (r : α → Int) (s : Bool) (l : List α) (x : α) : pilesF r s (l ++ [x]) = pileStep r s (pilesF r s l) x := by simp [pilesF]
theorem pileAt_le (r : α → Int) (s : Bool) (P : List α) (x : α) : pileAt r s P x ≤ P.length := List.countP_le_length
/-- What holds all along: each longest part ends on the pile of its length, whose top is not greater; each top is such an end; the tops rise. -/
structure PInv (r : α → Int) (s : Bool) (E : List (Int × Nat)) (P : List α) : Prop where
  up : ∀ p ∈ E, 1 ≤ p.2 ∧ ∃ h : p.2 - 1 < P.length, r P[p.2 - 1] ≤ p.1
  ex : ∀ j (h : j < P.length), (r P[j], j + 1) ∈ E
  so : P.Pairwise fun a b => ltS s (r a) (r b) = true
theorem PInv.nil (r : α → Int) (s : Bool) : PInv r s [] ([] : List α) := ⟨fun p hp => (by cases hp), fun j h => (by cases h), List.Pairwise.nil⟩
theorem pileAt_step {r : α → Int} {s : Bool} {P : List α} (so : P.Pairwise fun a b => ltS s (r a) (r b) = true) (x : α) (j : Nat) (h : j < P.length) : ltS s (r P[j]) (r x) = true ↔ j < pileAt r s P x := by
  let p : Nat → Bool := fun j => !((P[j]?.map fun a => ltS s (r a) (r x)).getD false)
  have hm : Mono p P.length := fun i j hij hj hp => by
    have hi : i < P.length := by omega
    simp only [p, List.getElem?_eq_getElem hi, List.getElem?_eq_getElem hj, Option.map_some, Option.getD_some, Bool.not_eq_true'] at hp ⊢
    rcases Nat.lt_or_ge i j with hlt | hge
    · have hij' := List.pairwise_iff_getElem.1 so i j hi hj hlt
      cases hc : ltS s (r P[j]) (r x) with
      | false => rfl
      | true => rw [ltS_trans hij' hc] at hp; cases hp
    · obtain rfl : i = j := by omega
      exact hp
  obtain ⟨t, ht, hs⟩ := hm.step
  have hc : pileAt r s P x = t - 0 := countP_all P _ 0 t (Nat.zero_le _) ht fun i y hy => by
    obtain ⟨hi, rfl⟩ := List.getElem?_eq_some_iff.1 hy
    have := hs i hi
    simp only [p, List.getElem?_eq_getElem hi, Option.map_some, Option.getD_some] at this
    cases hc : ltS s (r P[i]) (r x) with
    | false => rw [hc] at this; simp at this; constructor
               · intro h; cases h
               · omega
    | true => rw [hc] at this; simp at this; constructor
              · intro _; omega
              · intro _; rfl
  have := hs j h
  simp only [p, List.getElem?_eq_getElem h, Option.map_some, Option.getD_some] at this
  cases hcc : ltS s (r P[j]) (r x) with
  | false => rw [hcc] at this; simp at this; constructor
             · intro h; cases h
             · omega
  | true => rw [hcc] at this; simp at this; constructor
            · intro _; omega
            · intro _; rfl
theorem PInv.end_ {r : α → Int} {s : Bool} {E : List (Int × Nat)} {P : List α} (h : PInv r s E P) (x : α) : endF s E (r x) = pileAt r s P x + 1 := by
  refine endF_eq (fun p hp hl => ?_) (fun h0 => ?_)
  · obtain ⟨h1, h2, h3⟩ := h.up p hp
    have := (pileAt_step h.so x _ h2).1 (ltS_le h3 hl)
    omega
  · have hl := pileAt_le r s P x
    have hj : pileAt r s P x - 1 < P.length := by omega
    exact ⟨_, h.ex _ hj, (pileAt_step h.so x _ hj).2 (by omega), by show pileAt r s P x - 1 + 1 = _; omega⟩
theorem PInv.step {r : α → Int} {s : Bool} {E : List (Int × Nat)} {P : List α} (h : PInv r s E P) (x : α) : PInv r s (E ++ [(r x, endF s E (r x))]) (pileStep r s P x) := by
  rw [h.end_ x]
  have hst := pileAt_step h.so x
  have hle := pileAt_le r s P x
  unfold pileStep
  generalize pileAt r s P x = k at hst hle ⊢
  split
  · rename_i hk
    subst hk
    refine ⟨fun p hp => ?_, fun j hj => ?_, ?_⟩
    · rcases List.mem_append.1 hp with hp | hp
      · obtain ⟨h1, h2, h3⟩ := h.up p hp
        exact ⟨h1, by rw [List.length_append]; omega, by rw [List.getElem_append_left h2]; exact h3⟩
      · simp at hp; subst hp
        exact ⟨by simp, by simp, by simp⟩
    · rw [List.length_append] at hj
      simp at hj
      rcases Nat.lt_or_ge j P.length with hj' | hj'
      · rw [List.getElem_append_left hj']
        exact List.mem_append_left _ (h.ex j hj')
      · obtain rfl : j = P.length := by omega
        simp
    · rw [List.pairwise_append]
      refine ⟨h.so, by simp, fun a ha b hb => ?_⟩
      simp at hb; subst hb
      obtain ⟨j, hj, rfl⟩ := List.mem_iff_getElem.1 ha
      exact (hst j hj).2 hj
  · rename_i hk
    have hk' : k < P.length := by omega
    have hnk : ¬ ltS s (r P[k]) (r x) = true := fun e => by have := (hst k hk').1 e; omega
    refine ⟨fun p hp => ?_, fun j hj => ?_, ?_⟩
    · rcases List.mem_append.1 hp with hp | hp
      · obtain ⟨h1, h2, h3⟩ := h.up p hp
        refine ⟨h1, by rw [List.length_set]; exact h2, ?_⟩
        rw [List.getElem_set]
        split
        · rename_i e
          have h3' := h3
          simp only [← e] at h3'
          have := ltS_not hnk
          omega
        · exact h3
      · simp at hp; subst hp
        exact ⟨by simp, by simpa using hk', by simp⟩
    · rw [List.length_set] at hj
      rw [List.getElem_set]
      split
      · rename_i e
        subst e
        simp
      · exact List.mem_append_left _ (h.ex j hj)
    · rw [List.pairwise_iff_getElem]
      intro i j hi hj hij
      rw [List.length_set] at hi hj
      rw [List.getElem_set, List.getElem_set]
      split
      · rename_i e
        subst e
        rw [if_neg (by omega)]
        exact ltS_after hnk (List.pairwise_iff_getElem.1 h.so k j hk' hj hij)
      · split
        · rename_i e2
          subst e2
          exact (hst i hi).2 hij
        · exact List.pairwise_iff_getElem.1 h.so i j hi hj hij
theorem pInv_all (r : α → Int) (s : Bool) (l : List α) : PInv r s (endsF s (l.map r)) (pilesF r s l) := by
  induction l using snoc_ind with
  | h0 => exact PInv.nil r s
  | h1 l x ih =>
    rw [List.map_append, List.map_cons, List.map_nil, endsF_snoc, pilesF_snoc]
    exact ih.step x
theorem patience_law (r : α → Int) (s : Bool) (l : List α) : (pilesF r s l).length = bestF (endsF s (l.map r)) := by
  have h := pInv_all r s l
  obtain ⟨b1, b2⟩ := bestF_spec (endsF s (l.map r))
  apply Nat.le_antisymm
  · rcases Nat.eq_zero_or_pos (pilesF r s l).length with h0 | h0
    · omega
    · have := b1 _ (h.ex ((pilesF r s l).length - 1) (by omega))
      simp at this
      omega
  · rcases b2 with h0 | ⟨p, hp, e⟩
    · omega
    · obtain ⟨h1, h2, _⟩ := h.up p hp
      omega
theorem piles_srt (r : α → Int) (s : Bool) (l : List α) : (pilesF r s l).Pairwise fun a b => r a ≤ r b := (pInv_all r s l).so.imp fun {a b} h => by
  cases s
  · rwa [ltS_false] at h
  · rw [ltS_true] at h; omega
theorem piles_len_le (r : α → Int) (s : Bool) (l : List α) : (pilesF r s l).length ≤ l.length := by
  induction l using snoc_ind with
  | h0 => exact Nat.le_refl _
  | h1 l x ih =>
    rw [pilesF_snoc]
    unfold pileStep
    split <;> simp <;> omega
theorem endF_le (s : Bool) (b : Int) (E : List (Int × Nat)) (n : Nat) (h : ∀ p ∈ E, p.2 ≤ n) : endF s E b ≤ n + 1 := by
  rcases (endF_spec s b E).2.2 with e | ⟨p, hp, _, e⟩
  · omega
  · have := h p hp; omega
theorem endsF_le (s : Bool) (rs : List Int) : ∀ p ∈ endsF s rs, p.2 ≤ rs.length := by
  induction rs using snoc_ind with
  | h0 => intro p hp; cases hp
  | h1 l x ih =>
    intro p hp
    rw [endsF_snoc] at hp
    rcases List.mem_append.1 hp with hp | hp
    · have := ih p hp; simp; omega
    · simp at hp; subst hp
      have := endF_le s x _ _ ih
      simp; omega
end Go.Proofs.Ytnhaolhkanakeaa

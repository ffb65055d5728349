/- How arguments that come in are opened: slices of bools, ints and items as lists, with their bounds. Nothing of the program stands here. -/
import Derived.Test.YtdojnocmapkodaaWords
import Derived.Deep.Slices
import Derived.Deep.Fields
import Derived.Lib.SmallJoins
import Derived.SizedLaws
import Derived.ProofKit
import Derived.OpenShut
namespace Go.Proofs.Ytdojnocmapkodaa
open Go.ChangeShapes Go.WideShapes Go.Deep Go.RowKit

def InI (n : Int) : Prop := -9223372036854775808 ≤ n ∧ n ≤ 9223372036854775807
theorem inI_of_wf {n : Int} (h : (Lit.int .i64 n).wf = true) : InI n := by
  simp only [Lit.wf, IntKind.min, IntKind.max, IntKind.signed, IntKind.bits, Bool.and_eq_true, decide_eq_true_eq, if_true] at h
  unfold InI
  omega
/-- Of every place there is an x: then there is a list of them. -/
theorem list_of {α : Type} {Q : Nat → α → Prop} : ∀ n : Nat, (∀ i, i < n → ∃ x, Q i x) → ∃ l : List α, l.length = n ∧ ∀ i x, l[i]? = some x → Q i x
  | 0, _ => ⟨[], rfl, fun i x h => by simp at h⟩
  | n + 1, h => by
    obtain ⟨l, hl, hq⟩ := list_of n fun i hi => h i (by omega)
    obtain ⟨x, hx⟩ := h n (by omega)
    refine ⟨l ++ [x], by simp [hl], fun i y hy => ?_⟩
    rcases Nat.lt_trichotomy i n with hi | rfl | hi
    · rw [List.getElem?_append_left (by omega)] at hy; exact hq i y hy
    · rw [List.getElem?_append_right (by omega)] at hy; simp [hl] at hy; subst hy; exact hx
    · rw [List.getElem?_eq_none (by simp; omega)] at hy; cases hy
theorem flat_at {α : Type} {f : α → List Value} {s : Nat} (hf : ∀ x, (f x).length = s) : ∀ (l : List α) (j : Nat) (u : Value), (l.flatMap f)[j]? = some u → ∃ x, l[j / s]? = some x ∧ (f x)[j % s]? = some u
  | [], j, u, h => by simp at h
  | y :: l, j, u, h => by
    rw [List.flatMap_cons] at h
    rcases Nat.lt_or_ge j s with hj | hj
    · rw [List.getElem?_append_left (by rw [hf]; exact hj)] at h
      exact ⟨y, by rw [Nat.div_eq_of_lt hj]; rfl, by rw [Nat.mod_eq_of_lt hj]; exact h⟩
    · rw [List.getElem?_append_right (by rw [hf]; exact hj), hf] at h
      obtain ⟨x, hx, hu⟩ := flat_at hf l (j - s) u h
      have hs : 0 < s := by
        rcases Nat.eq_zero_or_pos s with rfl | hs
        · have := (List.getElem?_eq_some_iff.1 hu).1; rw [hf] at this; omega
        · exact hs
      have e : j = (j - s) + s := by omega
      refine ⟨x, ?_, ?_⟩
      · rw [e, Nat.add_div_right _ hs]; simpa using hx
      · rw [e, Nat.add_mod_right]; exact hu
theorem flat_len {α : Type} {f : α → List Value} {s : Nat} (hf : ∀ x, (f x).length = s) : ∀ l : List α, (l.flatMap f).length = l.length * s
  | [] => by simp
  | y :: l => by rw [List.flatMap_cons, List.length_append, hf, flat_len hf l, List.length_cons, Nat.add_mul, Nat.one_mul, Nat.add_comm]

theorem cB_flat (l : List Bool) : cB l = l.flatMap fun b => [Value.bool b] := by
  induction l with
  | nil => rfl
  | cons x l ih => rw [List.flatMap_cons, ← ih]; rfl
theorem cZ_flat (l : List Int) : cZ l = l.flatMap fun b => [Value.int .i64 b] := by
  induction l with
  | nil => rfl
  | cons x l ih => rw [List.flatMap_cons, ← ih]; rfl

section
variable {H : Type} {enc : TypeId × Value → H} {P : Program} {w : World} {base : Nat} {held : Bool}
theorem rd_flat {α : Type} {f : α → List Value} {s n : Nat} (hf : ∀ x, (f x).length = s) (hs : 0 < s) {a : Addr} {l : List α} (hl : l.length = n)
    (hc : ∀ i x, l[i]? = some x → w.cells? base (a.add (i * s)) s = some (f x)) : Rd w w.heap.size s (some a) n (l.flatMap f) := by
  refine ⟨by rw [flat_len hf, hl], fun hn => ?_⟩
  have hx0 := hc 0 (l[0]'(by omega)) (List.getElem?_eq_getElem (by omega))
  obtain ⟨b, off, spot⟩ := a
  have key : ∀ i x, l[i]? = some x → ∀ k u, (f x)[k]? = some u → w.cell? (((⟨b, off, spot⟩ : Addr).add (i * s)).add k) = some u := fun i x hx k u hu => by
    obtain ⟨_, _, h3⟩ := World.cells?_some (hc i x hx)
    rw [h3 k (by have := (List.getElem?_eq_some_iff.1 hu).1; rw [hf] at this; exact this)]; exact hu
  have h0 := key 0 (l[0]'(by omega)) (List.getElem?_eq_getElem (by omega)) 0 ((f (l[0]'(by omega)))[0]'(by rw [hf]; exact hs)) (List.getElem?_eq_getElem (by rw [hf]; exact hs))
  have hspot : spot = none := by simpa [Addr.add] using World.cell?_spot h0
  subst hspot
  have hlt := World.block_lt_of_cell? _ _ h0
  refine ⟨b, off, rfl, by simpa [Addr.add] using hlt, fun j u hu => ?_⟩
  obtain ⟨x, hx, hxu⟩ := flat_at hf l j u hu
  have := key _ x hx _ u hxu
  rw [Go.WideShapes.add_plain, Go.WideShapes.add_plain] at this
  rw [← this]
  congr 2
  have := Nat.div_add_mod j s
  rw [Nat.mul_comm] at this
  omega

/-- How long a slice's datum is, its spare room too. -/
def DLen (d : DataW H) (n c : Nat) : Prop := (d = .nil ∧ n = 0 ∧ c = 0) ∨ ∃ el spr : List (DataW H), d = .slice el spr ∧ el.length = n ∧ el.length + spr.length = c
theorem DLen.bytes {ts : List TypeId} {ds : List (DataW H)} {d : DataW H} {n c : Nat} (hd : DLen d n c) (h : (DataW.weightsEach P ts ds).all (· ≤ reachBytes) = true) {j : Nat} {t e : TypeId} (ht : ts[j]? = some t) (hdj : ds[j]? = some d)
    (hu : P.underlying t = some (.slice e)) : c * P.bytesOf e ≤ 140737488351232 := by
  rcases hd with ⟨_, _, rfl⟩ | ⟨el, spr, rfl, _, hl⟩
  · omega
  · have := sized_slice h ht hdj hu
    rw [hl] at this
    exact this
/-- A slice whose elements each read as an x of which Q holds. -/
theorem tr_slice {α : Type} {f : α → List Value} {s : Nat} {Q : α → Prop} {t e : TypeId} {fuel : Nat} {cs : List Value} {x : DataW H × List MemPlace} (hf : ∀ x, (f x).length = s) (hs : 0 < s)
    (ht : P.underlying t = some (.slice e)) (hC : P.cellsOf e = s) (hel : ∀ n cs' x', DataW.trod enc P w base (fun _ => true) held n e cs' = some x' → ∃ y, cs' = f y ∧ Q y)
    (h : DataW.trod enc P w base (fun _ => true) held fuel t cs = some x) :
    ∃ (A : Option Addr) (n c : Nat) (l : List α), cs = [.slice A n c] ∧ Rd w w.heap.size s A n (l.flatMap f) ∧ l.length = n ∧ (∀ y ∈ l, Q y) ∧ n ≤ c ∧ c ≤ 9223372036854775807 ∧ DLen x.1 n c := by
  rcases open_slice ht h with ⟨rfl, rfl⟩ | ⟨a, len, cap, m, n, D, Pl, rfl, hb, hl, hm, hmm, hx, hi⟩
  · exact ⟨none, 0, 0, [], rfl, by simpa using Rd.none_, rfl, by simp, by omega, by omega, .inl ⟨rfl, rfl, rfl⟩⟩
  · simp only [if_true] at hmm
    subst hmm
    rw [hC] at hi
    obtain ⟨l, hll, hq⟩ := list_of (Q := fun i y => w.cells? base (a.add (i * s)) s = some (f y) ∧ Q y) len fun i hi' => by
      obtain ⟨cs', hc, ht'⟩ := hi i (by omega)
      obtain ⟨y, rfl, hy⟩ := hel _ _ _ ht'
      exact ⟨y, hc, hy⟩
    refine ⟨some a, len, m, l, rfl, rd_flat hf hs hll fun i y hy => (hq i y hy).1, hll, fun y hy => ?_, hl, by simpa [maxLen] using hm, .inr ⟨_, _, by rw [hx], by simp, by simp; omega⟩⟩
    obtain ⟨i, hi', rfl⟩ := List.mem_iff_getElem.1 hy
    exact (hq i _ (List.getElem?_eq_getElem hi')).2
theorem tr_bools {t e : TypeId} {fuel : Nat} {cs : List Value} {x : DataW H × List MemPlace} (ht : P.underlying t = some (.slice e)) (he : P.underlying e = some .bool) (hC : P.cellsOf e = 1)
    (h : DataW.trod enc P w base (fun _ => true) held fuel t cs = some x) :
    ∃ (A : Option Addr) (n c : Nat) (l : List Bool), cs = [.slice A n c] ∧ Rd w w.heap.size 1 A n (cB l) ∧ n ≤ c ∧ c ≤ 9223372036854775807 ∧ DLen x.1 n c := by
  obtain ⟨A, n, c, l, h1, h2, _, _, h5, h6, h7⟩ := tr_slice (s := 1) (f := fun b : Bool => [Value.bool b]) (Q := fun _ => True) (fun _ => rfl) Nat.one_pos ht hC (fun n cs' x' hh => by
    obtain ⟨b, rfl, _⟩ := DataW.trod_bool he hh
    exact ⟨b, rfl, trivial⟩) h
  exact ⟨A, n, c, l, h1, by rw [cB_flat]; exact h2, h5, h6, h7⟩
theorem tr_ints {t e : TypeId} {fuel : Nat} {cs : List Value} {x : DataW H × List MemPlace} (ht : P.underlying t = some (.slice e)) (he : P.underlying e = some (.int .i64)) (hC : P.cellsOf e = 1)
    (h : DataW.trod enc P w base (fun _ => true) held fuel t cs = some x) :
    ∃ (A : Option Addr) (n c : Nat) (l : List Int), cs = [.slice A n c] ∧ Rd w w.heap.size 1 A n (cZ l) ∧ (∀ y ∈ l, InI y) ∧ n ≤ c ∧ c ≤ 9223372036854775807 ∧ DLen x.1 n c := by
  obtain ⟨A, n, c, l, h1, h2, _, h4, h5, h6, h7⟩ := tr_slice (s := 1) (f := fun b : Int => [Value.int .i64 b]) (Q := InI) (fun _ => rfl) Nat.one_pos ht hC (fun n cs' x' hh => by
    obtain ⟨b, rfl, _, hw⟩ := DataW.trod_int he hh
    exact ⟨b, rfl, inI_of_wf hw⟩) h
  exact ⟨A, n, c, l, h1, by rw [cZ_flat]; exact h2, h4, h5, h6, h7⟩
/-- An item: a struct of two ints. -/
theorem tr_item {e i : TypeId} {f0 f1 : Field} {fuel : Nat} {cs : List Value} {x : DataW H × List MemPlace} (he : P.underlying e = some (.struct #[f0, f1])) (hone : oneCellFields P #[f0, f1] = true) (hC : P.cellsOf e = 2)
    (h0 : f0.type = i) (h1 : f1.type = i) (hi : P.underlying i = some (.int .i64)) (h : DataW.trod enc P w base (fun _ => true) held fuel e cs = some x) :
    ∃ y : Int × Int, cs = [.int .i64 y.1, .int .i64 y.2] ∧ InI y.1 ∧ InI y.2 := by
  obtain ⟨xs, n, _, hx, hl, hxl, hf⟩ := DataW.trod_struct he h
  obtain ⟨o0, k0⟩ := hone_of hone 0 f0 rfl
  obtain ⟨o1, k1⟩ := hone_of hone 1 f1 rfl
  have a0 := hf 0 f0 rfl
  have a1 := hf 1 f1 rfl
  rw [o0, k0, h0] at a0
  rw [o1, k1, h1] at a1
  rw [hC] at hl
  match cs, hl with
  | [c0, c1], _ =>
    have hxl2 : xs.length = 2 := by simpa using hxl
    rw [List.getElem?_eq_getElem (by omega)] at a0 a1
    obtain ⟨p, hp, _, wp⟩ := DataW.trod_int hi a0
    obtain ⟨q, hq, _, wq⟩ := DataW.trod_int hi a1
    simp at hp hq
    subst hp hq
    exact ⟨(p, q), rfl, inI_of_wf wp, inI_of_wf wq⟩
theorem tr_items {t e i : TypeId} {f0 f1 : Field} {fuel : Nat} {cs : List Value} {x : DataW H × List MemPlace} (ht : P.underlying t = some (.slice e)) (he : P.underlying e = some (.struct #[f0, f1])) (hone : oneCellFields P #[f0, f1] = true) (hC : P.cellsOf e = 2)
    (h0 : f0.type = i) (h1 : f1.type = i) (hi : P.underlying i = some (.int .i64)) (h : DataW.trod enc P w base (fun _ => true) held fuel t cs = some x) :
    ∃ (A : Option Addr) (n c : Nat) (l : List (Int × Int)), cs = [.slice A n c] ∧ Rd w w.heap.size 2 A n (cI l) ∧ (∀ y ∈ l, InI y.1 ∧ InI y.2) ∧ n ≤ c ∧ c ≤ 9223372036854775807 ∧ DLen x.1 n c := by
  obtain ⟨A, n, c, l, h1', h2, _, h4, h5, h6, h7⟩ := tr_slice (f := fun y : Int × Int => [Value.int .i64 y.1, .int .i64 y.2]) (Q := fun y => InI y.1 ∧ InI y.2) (fun _ => rfl) (by omega) ht hC (fun n cs' x' hh => by
    obtain ⟨y, hy, r⟩ := tr_item he hone hC h0 h1 hi hh
    exact ⟨y, hy, r⟩) h
  exact ⟨A, n, c, l, h1', h2, h4, h5, h6, h7⟩
/-- An order: a struct of one slice of ints. -/
theorem tr_order {e s i : TypeId} {f0 : Field} {fuel : Nat} {cs : List Value} {x : DataW H × List MemPlace} (he : P.underlying e = some (.struct #[f0])) (hone : oneCellFields P #[f0] = true) (hC : P.cellsOf e = 1)
    (h0 : f0.type = s) (hs : P.underlying s = some (.slice i)) (hi : P.underlying i = some (.int .i64)) (hc : P.cellsOf i = 1) (h : DataW.trod enc P w base (fun _ => true) held fuel e cs = some x) :
    ∃ (A : Option Addr) (n c : Nat) (l : List Int) (d0 : DataW H), cs = [.slice A n c] ∧ Rd w w.heap.size 1 A n (cZ l) ∧ (∀ y ∈ l, InI y) ∧ n ≤ c ∧ c ≤ 9223372036854775807 ∧ x.1 = .agg [d0] ∧ DLen d0 n c := by
  obtain ⟨xs, n, _, hx, hl, hxl, hf⟩ := DataW.trod_struct he h
  obtain ⟨o0, k0⟩ := hone_of hone 0 f0 rfl
  have a0 := hf 0 f0 rfl
  rw [o0, k0, h0] at a0
  rw [hC] at hl
  match cs, hl, xs, hxl with
  | [c0], _, [x0], _ =>
    obtain ⟨A, n, c, l, g1, g2, g3, g4, g5, g6⟩ := tr_ints hs hi hc (by simpa using a0)
    exact ⟨A, n, c, l, x0.1, g1, g2, g3, g4, g5, by rw [hx]; rfl, g6⟩

/-! ### Arguments -/
variable {r : Reach} {b0 : Nat} {v : Value} {d : DataW H} {p : List MemPlace}
theorem arg_bools {t e : TypeId} (ht : P.underlying t = some (.slice e)) (he : P.underlying e = some .bool) (hC : P.cellsOf e = 1) (hv : Value.okWide P w r b0 t v) (h : DataW.Trod enc P w base (fun _ => true) held t v d p) :
    ∃ (A : Option Addr) (n c : Nat) (l : List Bool), v = .slice A n c ∧ Rd w w.heap.size 1 A n (cB l) ∧ n ≤ c ∧ c ≤ 9223372036854775807 ∧ DLen d n c := by
  obtain ⟨a, len, cap, rfl⟩ := okWide_slice ht hv
  obtain ⟨fuel, hf⟩ := h
  obtain ⟨A, n, c, l, hcs, r⟩ := tr_bools ht he hC hf
  exact ⟨A, n, c, l, by simpa [Value.cells] using hcs, r⟩
theorem arg_ints {t e : TypeId} (ht : P.underlying t = some (.slice e)) (he : P.underlying e = some (.int .i64)) (hC : P.cellsOf e = 1) (hv : Value.okWide P w r b0 t v) (h : DataW.Trod enc P w base (fun _ => true) held t v d p) :
    ∃ (A : Option Addr) (n c : Nat) (l : List Int), v = .slice A n c ∧ Rd w w.heap.size 1 A n (cZ l) ∧ (∀ y ∈ l, InI y) ∧ n ≤ c ∧ c ≤ 9223372036854775807 ∧ DLen d n c := by
  obtain ⟨a, len, cap, rfl⟩ := okWide_slice ht hv
  obtain ⟨fuel, hf⟩ := h
  obtain ⟨A, n, c, l, hcs, r⟩ := tr_ints ht he hC hf
  exact ⟨A, n, c, l, by simpa [Value.cells] using hcs, r⟩
theorem arg_items {t e i : TypeId} {f0 f1 : Field} (ht : P.underlying t = some (.slice e)) (he : P.underlying e = some (.struct #[f0, f1])) (hone : oneCellFields P #[f0, f1] = true) (hC : P.cellsOf e = 2)
    (h0 : f0.type = i) (h1 : f1.type = i) (hi : P.underlying i = some (.int .i64)) (hv : Value.okWide P w r b0 t v) (h : DataW.Trod enc P w base (fun _ => true) held t v d p) :
    ∃ (A : Option Addr) (n c : Nat) (l : List (Int × Int)), v = .slice A n c ∧ Rd w w.heap.size 2 A n (cI l) ∧ (∀ y ∈ l, InI y.1 ∧ InI y.2) ∧ n ≤ c ∧ c ≤ 9223372036854775807 ∧ DLen d n c := by
  obtain ⟨a, len, cap, rfl⟩ := okWide_slice ht hv
  obtain ⟨fuel, hf⟩ := h
  obtain ⟨A, n, c, l, hcs, r⟩ := tr_items ht he hone hC h0 h1 hi hf
  exact ⟨A, n, c, l, by simpa [Value.cells] using hcs, r⟩
theorem arg_item {t i : TypeId} {f0 f1 : Field} (he : P.underlying t = some (.struct #[f0, f1])) (hone : oneCellFields P #[f0, f1] = true) (hC : P.cellsOf t = 2)
    (h0 : f0.type = i) (h1 : f1.type = i) (hi : P.underlying i = some (.int .i64)) (hv : Value.okWide P w r b0 t v) (h : DataW.Trod enc P w base (fun _ => true) held t v d p) :
    ∃ y : Int × Int, v = .agg #[.int .i64 y.1, .int .i64 y.2] ∧ InI y.1 ∧ InI y.2 := by
  obtain ⟨cs, rfl, hsz⟩ := okWide_struct he hv
  obtain ⟨fuel, hf⟩ := h
  obtain ⟨y, hcs, r⟩ := tr_item he hone hC h0 h1 hi hf
  refine ⟨y, ?_, r⟩
  obtain ⟨l⟩ := cs
  simp only [Value.cells] at hcs
  rw [hcs]
theorem arg_order {t s i : TypeId} {f0 : Field} (he : P.underlying t = some (.struct #[f0])) (hone : oneCellFields P #[f0] = true) (hC : P.cellsOf t = 1)
    (h0 : f0.type = s) (hs : P.underlying s = some (.slice i)) (hi : P.underlying i = some (.int .i64)) (hc : P.cellsOf i = 1) (hv : Value.okWide P w r b0 t v) (h : DataW.Trod enc P w base (fun _ => true) held t v d p) :
    ∃ (A : Option Addr) (n c : Nat) (l : List Int) (d0 : DataW H), v = .agg #[.slice A n c] ∧ Rd w w.heap.size 1 A n (cZ l) ∧ (∀ y ∈ l, InI y) ∧ n ≤ c ∧ c ≤ 9223372036854775807 ∧ d = .agg [d0] ∧ DLen d0 n c := by
  obtain ⟨cs, rfl, hsz⟩ := okWide_struct he hv
  obtain ⟨fuel, hf⟩ := h
  obtain ⟨A, n, c, l, d0, hcs, r⟩ := tr_order he hone hC h0 hs hi hc hf
  refine ⟨A, n, c, l, d0, ?_, r⟩
  obtain ⟨m⟩ := cs
  simp only [Value.cells] at hcs
  rw [hcs]
theorem order_bytes {ts : List TypeId} {ds : List (DataW H)} {d0 : DataW H} {n c : Nat} (hd : DLen d0 n c) (h : (DataW.weightsEach P ts ds).all (· ≤ reachBytes) = true) {j : Nat} {t s i : TypeId} {f0 : Field} (ht : ts[j]? = some t)
    (hdj : ds[j]? = some (.agg [d0])) (he : P.underlying t = some (.struct #[f0])) (h0 : f0.type = s) (hs : P.underlying s = some (.slice i)) : c * P.bytesOf i ≤ 140737488351232 := by
  rcases hd with ⟨_, _, rfl⟩ | ⟨el, spr, rfl, _, hl⟩
  · omega
  · have := List.all_eq_true.1 h _ (DataW.weights_mem_each ht hdj ((el.length + spr.length) * P.bytesOf i) (by simp [DataW.weights, DataW.weightsEach, he, h0, hs]))
    rw [hl] at this
    exact of_decide_eq_true this
/-- A curve: two words of 64 bits and an int. -/
theorem arg_curve {t u i : TypeId} {f0 f1 f2 : Field} (he : P.underlying t = some (.struct #[f0, f1, f2])) (hone : oneCellFields P #[f0, f1, f2] = true) (hC : P.cellsOf t = 3)
    (h0 : f0.type = u) (h1 : f1.type = u) (h2 : f2.type = i) (hu : P.underlying u = some (.int .u64)) (hi : P.underlying i = some (.int .i64)) (hv : Value.okWide P w r b0 t v) (h : DataW.Trod enc P w base (fun _ => true) held t v d p) :
    ∃ (F L : Nat) (q : Int), v = .agg #[.int .u64 F, .int .u64 L, .int .i64 q] ∧ F < 18446744073709551616 ∧ L < 18446744073709551616 ∧ InI q := by
  obtain ⟨v0, v1, v2, y0, y1, y2, n, rfl, rfl, rfl, a0, a1, a2⟩ := Joins.open_agg3 he hone hC hv h
  rw [h0] at a0
  rw [h1] at a1
  rw [h2] at a2
  obtain ⟨F, e0, _, w0⟩ := DataW.trod_int hu a0
  obtain ⟨L, e1, _, w1⟩ := DataW.trod_int hu a1
  obtain ⟨q, e2, _, w2⟩ := DataW.trod_int hi a2
  simp at e0 e1 e2
  subst e0 e1 e2
  have b0 := bounds_u64 w0
  have b1 := bounds_u64 w1
  obtain ⟨F, rfl⟩ := Int.eq_ofNat_of_zero_le b0.1
  obtain ⟨L, rfl⟩ := Int.eq_ofNat_of_zero_le b1.1
  exact ⟨F, L, q, rfl, by omega, by omega, inI_of_wf w2⟩
theorem trod_lt_of {t : TypeId} (h : DataW.Trod enc P w base (fun _ => true) held t v d p) : ∀ x ∈ p, x.block < w.heap.size := by obtain ⟨m, hm⟩ := h; exact DataW.trod_lt m _ _ _ hm
end
end Go.Proofs.Ytdojnocmapkodaa

/- Opening arguments: slices of structs that hold a struct (questions, steps), slices of orders. -/
import Derived.Test.YtdojnocmapkodaaOpen
import Derived.Test.YtdojnocmapkodaaBefore
namespace Go.Proofs.Ytdojnocmapkodaa
open Go.ChangeShapes Go.WideShapes Go.Deep Go.RowKit
/-- The cells of questions, of steps. -/
def cQ (l : List (Bool × (Int × Int))) : List Value := l.flatMap fun x => [.bool x.1, .int .i64 x.2.1, .int .i64 x.2.2]
theorem cQ_len (l : List (Bool × (Int × Int))) : (cQ l).length = l.length * 3 := flat_len (f := fun x : Bool × (Int × Int) => [.bool x.1, .int .i64 x.2.1, .int .i64 x.2.2]) (s := 3) (fun _ => rfl) l
theorem cQ_cons (x : Bool × (Int × Int)) (l : List (Bool × (Int × Int))) : cQ (x :: l) = .bool x.1 :: .int .i64 x.2.1 :: .int .i64 x.2.2 :: cQ l := by simp [cQ]
theorem cQ_at (l : List (Bool × (Int × Int))) (k : Nat) (h : k < l.length) : (cQ l)[3 * k]? = some (.bool (l[k]'h).1) ∧ (cQ l)[3 * k + 1]? = some (.int .i64 (l[k]'h).2.1) ∧ (cQ l)[3 * k + 2]? = some (.int .i64 (l[k]'h).2.2) := by
  induction l generalizing k with
  | nil => simp at h
  | cons x l ih =>
    rw [cQ_cons]
    cases k with
    | zero => simp
    | succ k =>
      have := ih k (by simpa using h)
      rw [show 3 * (k + 1) = 3 * k + 1 + 1 + 1 by omega]
      simpa using this
def itQ (l : List (Bool × (Int × Int))) (k : Nat) : Bool × (Int × Int) := l[k]?.getD (false, (0, 0))
theorem itQ_lt {l : List (Bool × (Int × Int))} {k : Nat} (h : k < l.length) : itQ l k = l[k] := by simp [itQ, h]
theorem rdQ_len {w : World} {B n : Nat} {A : Option Addr} {l : List (Bool × (Int × Int))} (h : Rd w B 3 A n (cQ l)) : l.length = n := by have := h.1; rw [cQ_len] at this; omega
theorem rdQ_at {w : World} {B n k : Nat} {A : Option Addr} {l : List (Bool × (Int × Int))} (h : Rd w B 3 A n (cQ l)) (hk : k < n) :
    ∃ b off, A = some ⟨b, off, none⟩ ∧ b < B ∧ w.cell? ⟨b, off + k * 3, none⟩ = some (.bool (itQ l k).1) ∧ w.cell? ⟨b, off + k * 3 + 1, none⟩ = some (.int .i64 (itQ l k).2.1) ∧ w.cell? ⟨b, off + k * 3 + 2, none⟩ = some (.int .i64 (itQ l k).2.2) := by
  obtain ⟨b, off, e, hb, hc⟩ := h.2 (by omega)
  have hl := rdQ_len h
  have := cQ_at l k (by omega)
  refine ⟨b, off, e, hb, ?_, ?_, ?_⟩
  · rw [itQ_lt (by omega)]; exact hc _ _ (by rw [Nat.mul_comm]; exact this.1)
  · rw [itQ_lt (by omega), Nat.add_assoc]; exact hc _ _ (by rw [Nat.mul_comm]; exact this.2.1)
  · rw [itQ_lt (by omega), Nat.add_assoc]; exact hc _ _ (by rw [Nat.mul_comm]; exact this.2.2)
section
variable {H : Type} {enc : TypeId × Value → H} {P : Program} {w : World} {base : Nat} {held : Bool}
theorem tr_ask {e bt it_ i : TypeId} {f0 f1 g0 g1 : Field} {fuel : Nat} {cs : List Value} {x : DataW H × List MemPlace} (he : P.underlying e = some (.struct #[f0, f1])) (h0 : f0.type = bt) (h1 : f1.type = it_)
    (hb : P.underlying bt = some .bool) (hi : P.underlying it_ = some (.struct #[g0, g1])) (hC : P.cellsOf e = 3) (hCb : P.cellsOf bt = 1) (hCi : P.cellsOf it_ = 2) (hone : oneCellFields P #[g0, g1] = true) (hoff : (f0.offset, f1.offset) = (0, 1))
    (k0 : g0.type = i) (k1 : g1.type = i) (hint : P.underlying i = some (.int .i64)) (h : DataW.trod enc P w base (fun _ => true) held fuel e cs = some x) :
    ∃ y : Bool × (Int × Int), cs = [.bool y.1, .int .i64 y.2.1, .int .i64 y.2.2] ∧ InI y.2.1 ∧ InI y.2.2 := by
  obtain ⟨xs, n, _, hx, hl, hxl, hf⟩ := DataW.trod_struct he h
  have a0 := hf 0 f0 rfl
  have a1 := hf 1 f1 rfl
  injection hoff with o0 o1
  rw [o0, h0, hCb] at a0
  rw [o1, h1, hCi] at a1
  rw [hC] at hl
  match cs, hl with
  | [c0, c1, c2], _ =>
    have hxl2 : xs.length = 2 := by simpa using hxl
    rw [List.getElem?_eq_getElem (by omega)] at a0 a1
    obtain ⟨p, hp, _⟩ := DataW.trod_bool hb a0
    obtain ⟨y, hy, r1, r2⟩ := tr_item hi hone hCi k0 k1 hint a1
    simp at hp hy
    obtain ⟨hy1, hy2⟩ := hy
    subst hp hy1 hy2
    exact ⟨(p, y), rfl, r1, r2⟩
variable {r : Reach} {b0 : Nat} {v : Value} {d : DataW H} {p : List MemPlace}
theorem arg_asks {t e bt it_ i : TypeId} {f0 f1 g0 g1 : Field} (ht : P.underlying t = some (.slice e)) (he : P.underlying e = some (.struct #[f0, f1])) (h0 : f0.type = bt) (h1 : f1.type = it_)
    (hb : P.underlying bt = some .bool) (hi : P.underlying it_ = some (.struct #[g0, g1])) (hC : P.cellsOf e = 3) (hCb : P.cellsOf bt = 1) (hCi : P.cellsOf it_ = 2) (hone : oneCellFields P #[g0, g1] = true) (hoff : (f0.offset, f1.offset) = (0, 1))
    (k0 : g0.type = i) (k1 : g1.type = i) (hint : P.underlying i = some (.int .i64)) (hv : Value.okWide P w r b0 t v) (h : DataW.Trod enc P w base (fun _ => true) held t v d p) :
    ∃ (A : Option Addr) (n c : Nat) (l : List (Bool × (Int × Int))), v = .slice A n c ∧ Rd w w.heap.size 3 A n (cQ l) ∧ (∀ y ∈ l, InI y.2.1 ∧ InI y.2.2) ∧ n ≤ c ∧ c ≤ 9223372036854775807 ∧ DLen d n c := by
  obtain ⟨a, len, cap, rfl⟩ := okWide_slice ht hv
  obtain ⟨fuel, hf⟩ := h
  obtain ⟨A, n, c, l, hcs, g2, _, g4, g5, g6, g7⟩ := tr_slice (s := 3) (f := fun x : Bool × (Int × Int) => [Value.bool x.1, .int .i64 x.2.1, .int .i64 x.2.2]) (Q := fun y => InI y.2.1 ∧ InI y.2.2) (fun _ => rfl) (by omega) ht hC (fun n cs' x' hh => by
    obtain ⟨y, hy, r⟩ := tr_ask he h0 h1 hb hi hC hCb hCi hone hoff k0 k1 hint hh
    exact ⟨y, hy, r⟩) hf
  exact ⟨A, n, c, l, by simpa [Value.cells] using hcs, g2, g4, g5, g6, g7⟩
theorem map_flat (l : List Tab) : l.flatMap (fun t => [cT t]) = l.map cT := by
  induction l with
  | nil => rfl
  | cons x l ih => rw [List.flatMap_cons, ih]; rfl
theorem arg_orders {t e s i : TypeId} {f0 : Field} (ht : P.underlying t = some (.slice e)) (he : P.underlying e = some (.struct #[f0])) (hone : oneCellFields P #[f0] = true) (hC : P.cellsOf e = 1)
    (h0 : f0.type = s) (hs : P.underlying s = some (.slice i)) (hi : P.underlying i = some (.int .i64)) (hc : P.cellsOf i = 1) (hv : Value.okWide P w r b0 t v) (h : DataW.Trod enc P w base (fun _ => true) held t v d p) :
    ∃ (A : Option Addr) (n c : Nat) (l : List Tab), v = .slice A n c ∧ RdS w w.heap.size A n l ∧ (∀ y ∈ l, ∀ z ∈ y.r, InI z) ∧ n ≤ c ∧ c ≤ 9223372036854775807 ∧ DLen d n c := by
  obtain ⟨a, len, cap, rfl⟩ := okWide_slice ht hv
  obtain ⟨fuel, hf⟩ := h
  obtain ⟨A, n, c, l, hcs, g2, _, g4, g5, g6, g7⟩ := tr_slice (s := 1) (f := fun t : Tab => [cT t]) (Q := fun t => Rd w w.heap.size 1 t.a t.n (cZ t.r) ∧ ∀ z ∈ t.r, InI z) (fun _ => rfl) (by omega) ht hC (fun n cs' x' hh => by
    obtain ⟨A', n', c', l', d0, e1, e2, e3, _⟩ := tr_order he hone hC h0 hs hi hc hh
    exact ⟨⟨A', n', c', l'⟩, e1, e2, e3⟩) hf
  rw [map_flat] at g2
  exact ⟨A, n, c, l, by simpa [Value.cells] using hcs, ⟨g2, fun t ht => (g4 t ht).1⟩, fun y hy => (g4 y hy).2, g5, g6, g7⟩
end
end Go.Proofs.Ytdojnocmapkodaa

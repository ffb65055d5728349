/- Words for memory that all texts of this seat share: a slice that reads as a list of cells (nil let in), and what keeps it so. Nothing of the program stands here. -/
import Derived.WalkKit
import Derived.Below
import Derived.Laws.OwnMore
import Derived.Deep.AppendLies
import Derived.Deep.Draws
import Derived.Lib.Hide
import Derived.WideShapes
namespace Go.Proofs.Ytdojnocmapkodaa
open Go.RowKit

theorem below_step {w W W' : World} (h : Below w.heap.size w W) (k : Below W.heap.size W W') : Below w.heap.size w W' := h.trans (k.mono h.size)

/-- The slice value '.slice A n c' holds the cells xs (size cells an element) and lies below block B. -/
def Rd (w : World) (B size : Nat) (A : Option Addr) (n : Nat) (xs : List Value) : Prop :=
  xs.length = n * size ∧ (0 < n → ∃ b off, A = some ⟨b, off, none⟩ ∧ b < B ∧ ∀ j u, xs[j]? = some u → w.cell? ⟨b, off + j, none⟩ = some u)

section
variable {w w' : World} {B B' size n : Nat} {A : Option Addr} {xs : List Value}
theorem Rd.none_ : Rd w B size A 0 [] := ⟨by simp, fun h => absurd h (by omega)⟩
theorem Rd.len (h : Rd w B size A n xs) : xs.length = n * size := h.1
theorem Rd.keep (h : Rd w B size A n xs) (hk : ∀ p : Addr, p.block < B → w'.cell? p = w.cell? p) : Rd w' B size A n xs :=
  ⟨h.1, fun hn => by
    obtain ⟨b, off, e, hb, hc⟩ := h.2 hn
    exact ⟨b, off, e, hb, fun j u hu => (hk _ hb).trans (hc j u hu)⟩⟩
theorem Rd.more (h : Rd w B size A n xs) (hB : B ≤ B') : Rd w B' size A n xs :=
  ⟨h.1, fun hn => by
    obtain ⟨b, off, e, hb, hc⟩ := h.2 hn
    exact ⟨b, off, e, by omega, hc⟩⟩
theorem Rd.below (h : Rd w B size A n xs) (hb : Below B w w') : Rd w' B size A n xs := h.keep fun _ hp => hb.cell hp
theorem Rd.drew (h : Rd w B size A n xs) : Rd w.drew B size A n xs := h
theorem Rd.drewN (h : Rd w B size A n xs) (k : Nat) : Rd (w.drewN k) B size A n xs := h
theorem Rd.alloc (h : Rd w B size A n xs) (hB : B ≤ w.heap.size) (o : Obj) : Rd (w.alloc o) B size A n xs := h.keep fun p hp => World.cell?_alloc_lt w o p (by omega)
theorem Rd.setCell (h : Rd w B size A n xs) {p : Addr} (hB : B ≤ p.block) (u : Value) : Rd (w.setCell p u) B size A n xs :=
  h.keep fun q hq => World.cell?_setCell_other w p q u (fun e => by subst e; omega)
theorem Rd.grown (h : Rd w B size A n xs) {row : Option Nat} (hg : w.grownBy w' row) (hB : B ≤ w.heap.size) (hr : ∀ g, row = some g → B ≤ g) : Rd w' B size A n xs :=
  h.keep fun p hp => World.cell?_of_block (hg.block p.block (by omega) (fun e => by have := hr _ e.symm; omega))
/-- In a world that has grown, below its own size. -/
theorem Rd.on (h : Rd w w.heap.size size A n xs) (hb : Below w.heap.size w w') : Rd w' w'.heap.size size A n xs := (h.below hb).more hb.size
theorem Rd.of_own {base : Nat} {e : TypeId} {c : Nat} (h : w.ownsRow base e size (.slice A n c) n xs) : Rd w w.heap.size size A n xs := by
  refine ⟨h.1, fun hn => ?_⟩
  rcases h.2 with ⟨_, h0⟩ | ⟨g, cap, cur, hv, hbg, hg, hnc, hcm, hcs, htake⟩
  · omega
  · injection hv with hA
    subst hA
    refine ⟨g, 0, rfl, (Array.getElem?_eq_some_iff.1 hg).1, fun j u hu => ?_⟩
    rw [Nat.zero_add, cell_of_row w g j cur e (0, 0) hg]
    rw [← htake, List.getElem?_take] at hu
    split at hu
    · simpa using hu
    · cases hu
/-- The cell at place k of a slice of one-cell elements. -/
theorem Rd.at_ {k : Nat} (h : Rd w B 1 A n xs) (hk : k < n) : ∃ b off u, A = some ⟨b, off, none⟩ ∧ b < B ∧ xs[k]? = some u ∧ w.cell? ⟨b, off + k, none⟩ = some u := by
  obtain ⟨b, off, e, hb, hc⟩ := h.2 (by omega)
  have hl : k < xs.length := by have := h.1; omega
  exact ⟨b, off, xs[k], e, hb, List.getElem?_eq_getElem hl, hc k _ (List.getElem?_eq_getElem hl)⟩
end

/-- The first part of a slice, and the rest ('s[k:]': at the end of its capacity the address stays). -/
theorem Rd.take_ {w : World} {B size n k : Nat} {A : Option Addr} {xs : List Value} (h : Rd w B size A n xs) (hk : k ≤ n) : Rd w B size A k (xs.take (k * size)) := by
  refine ⟨by rw [List.length_take, h.1]; exact Nat.min_eq_left (Nat.mul_le_mul_right _ hk), fun h0 => ?_⟩
  obtain ⟨b, off, e, hb, hc⟩ := h.2 (by omega)
  refine ⟨b, off, e, hb, fun j u hu => hc j u ?_⟩
  rw [List.getElem?_take] at hu
  split at hu
  · exact hu
  · cases hu
theorem Rd.drop_ {w : World} {B size n k : Nat} {A A' : Option Addr} {xs : List Value} (h : Rd w B size A n xs) (hk : k ≤ n) (hA : k < n → A' = A.map (·.add (k * size))) : Rd w B size A' (n - k) (xs.drop (k * size)) := by
  refine ⟨by rw [List.length_drop, h.1, Nat.sub_mul], fun h0 => ?_⟩
  obtain ⟨b, off, rfl, hb, hc⟩ := h.2 (by omega)
  refine ⟨b, off + k * size, by rw [hA (by omega)]; simp [Go.WideShapes.add_plain], hb, fun j u hu => ?_⟩
  rw [Nat.add_assoc]
  exact hc _ u (by rw [← hu, List.getElem?_drop])

/-- The cells of bools, of ints, of items. -/
def cB (l : List Bool) : List Value := l.map Value.bool
def cZ (l : List Int) : List Value := l.map (Value.int .i64)
def cI (l : List (Int × Int)) : List Value := l.flatMap fun x => [.int .i64 x.1, .int .i64 x.2]
theorem cB_len (l : List Bool) : (cB l).length = l.length := by simp [cB]
theorem cZ_len (l : List Int) : (cZ l).length = l.length := by simp [cZ]
theorem cI_len (l : List (Int × Int)) : (cI l).length = l.length * 2 := by
  induction l with
  | nil => rfl
  | cons x l ih => simp only [cI, List.flatMap_cons, List.length_append, List.length_cons, List.length_nil] at ih ⊢; omega
theorem cI_cons (x : Int × Int) (l : List (Int × Int)) : cI (x :: l) = .int .i64 x.1 :: .int .i64 x.2 :: cI l := by simp [cI]
theorem cI_append (l m : List (Int × Int)) : cI (l ++ m) = cI l ++ cI m := by simp [cI]
theorem cI_at (l : List (Int × Int)) (k : Nat) (h : k < l.length) : (cI l)[2 * k]? = some (.int .i64 (l[k]'h).1) ∧ (cI l)[2 * k + 1]? = some (.int .i64 (l[k]'h).2) := by
  induction l generalizing k with
  | nil => simp at h
  | cons x l ih =>
    rw [cI_cons]
    cases k with
    | zero => simp
    | succ k =>
      have := ih k (by simpa using h)
      rw [show 2 * (k + 1) = 2 * k + 1 + 1 by omega]
      simpa using this
theorem rdB_len {w : World} {B n : Nat} {A : Option Addr} {l : List Bool} (h : Rd w B 1 A n (cB l)) : l.length = n := by have := h.1; rw [cB_len] at this; omega
theorem rdZ_len {w : World} {B n : Nat} {A : Option Addr} {l : List Int} (h : Rd w B 1 A n (cZ l)) : l.length = n := by have := h.1; rw [cZ_len] at this; omega
theorem rdI_len {w : World} {B n : Nat} {A : Option Addr} {l : List (Int × Int)} (h : Rd w B 2 A n (cI l)) : l.length = n := by have := h.1; rw [cI_len] at this; omega
theorem rdB_at {w : World} {B n k : Nat} {A : Option Addr} {l : List Bool} (h : Rd w B 1 A n (cB l)) (hk : k < n) :
    ∃ b off, A = some ⟨b, off, none⟩ ∧ b < B ∧ w.cell? ⟨b, off + k, none⟩ = some (.bool (l[k]?.getD false)) := by
  obtain ⟨b, off, u, e, hb, hx, hc⟩ := h.at_ hk
  refine ⟨b, off, e, hb, hc.trans ?_⟩
  have hl := rdB_len h
  rw [cB, List.getElem?_map, List.getElem?_eq_getElem (by omega)] at hx
  rw [List.getElem?_eq_getElem (by omega)]
  simpa using hx.symm
theorem rdZ_at {w : World} {B n k : Nat} {A : Option Addr} {l : List Int} (h : Rd w B 1 A n (cZ l)) (hk : k < n) :
    ∃ b off, A = some ⟨b, off, none⟩ ∧ b < B ∧ w.cell? ⟨b, off + k, none⟩ = some (.int .i64 (l[k]?.getD 0)) := by
  obtain ⟨b, off, u, e, hb, hx, hc⟩ := h.at_ hk
  refine ⟨b, off, e, hb, hc.trans ?_⟩
  have hl := rdZ_len h
  rw [cZ, List.getElem?_map, List.getElem?_eq_getElem (by omega)] at hx
  rw [List.getElem?_eq_getElem (by omega)]
  simpa using hx.symm
/-- The item at a place. -/
def it (l : List (Int × Int)) (k : Nat) : Int × Int := l[k]?.getD (0, 0)
theorem it_lt {l : List (Int × Int)} {k : Nat} (h : k < l.length) : it l k = l[k] := by simp [it, h]
theorem rdI_at {w : World} {B n k : Nat} {A : Option Addr} {l : List (Int × Int)} (h : Rd w B 2 A n (cI l)) (hk : k < n) :
    ∃ b off, A = some ⟨b, off, none⟩ ∧ b < B ∧ w.cell? ⟨b, off + k * 2, none⟩ = some (.int .i64 (it l k).1) ∧ w.cell? ⟨b, off + k * 2 + 1, none⟩ = some (.int .i64 (it l k).2) := by
  obtain ⟨b, off, e, hb, hc⟩ := h.2 (by omega)
  have hl := rdI_len h
  have := cI_at l k (by omega)
  refine ⟨b, off, e, hb, ?_, ?_⟩
  · rw [it_lt (by omega)]; exact hc _ _ (by rw [Nat.mul_comm]; exact this.1)
  · rw [it_lt (by omega), Nat.add_assoc]; exact hc _ _ (by rw [Nat.mul_comm]; exact this.2)
theorem cI_set (l : List (Int × Int)) (p : Nat) (x : Int × Int) : ((cI l).set (p * 2) (.int .i64 x.1)).set (p * 2 + 1) (.int .i64 x.2) = cI (l.set p x) := by
  induction l generalizing p with
  | nil => simp [cI]
  | cons y l ih =>
    cases p with
    | zero => simp [cI_cons]
    | succ p =>
      rw [cI_cons, show (p + 1) * 2 = p * 2 + 1 + 1 by omega]
      simp only [List.set_cons_succ]
      rw [ih p, cI_cons]
end Go.Proofs.Ytdojnocmapkodaa

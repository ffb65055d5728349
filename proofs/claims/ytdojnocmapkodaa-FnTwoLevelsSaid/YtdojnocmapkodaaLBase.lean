/- Searching lists of items: what is asked of an element; boxes of three parameters. -/
import Derived.Test.YtdojnocmapkodaaSearch
import Derived.Test.YtdojnocmapkodaaRank
import Derived.Shelf.Abstract
namespace Go.Proofs.Ytdojnocmapkodaa
open Go.RowKit Go.Shelf

/-- Does the element at a place not come before x? Does it come after x? -/
def pFirst (R : List Int) (l : List (Int × Int)) (x : Int × Int) (i : Nat) : Bool := !decide (rk R (it l i).1 < rk R x.1)
def pPast (R : List Int) (l : List (Int × Int)) (x : Int × Int) (i : Nat) : Bool := decide (rk R x.1 < rk R (it l i).1)
/-- What comparing x with the element says. -/
def cmpI (R : List Int) (x y : Int) : Int := if rk R x < rk R y then -1 else if rk R y < rk R x then 1 else 0
def cItem (R : List Int) (l : List (Int × Int)) (x : Int × Int) (i : Nat) : Int := cmpI R x.1 (it l i).1

/-- The world with the three parameters of a search in their boxes. -/
def boxed (w : World) (AL : Option Addr) (nL cL : Nat) (x : Int × Int) (A : Option Addr) (m c : Nat) : World :=
  ((w.alloc (.cells #[.slice AL nL cL] 22)).alloc (.cells #[.int .i64 x.1, .int .i64 x.2] 27)).alloc (.cells #[.slice A m c] 25)
theorem boxed_below (w : World) (AL : Option Addr) (nL cL : Nat) (x : Int × Int) (A : Option Addr) (m c : Nat) : Below w.heap.size w (boxed w AL nL cL x A m c) := below_alloc3 _ _ _ _
theorem boxed_l {w W : World} {AL : Option Addr} {nL cL : Nat} {x : Int × Int} {A : Option Addr} {m c : Nat} (h : Below (boxed w AL nL cL x A m c).heap.size (boxed w AL nL cL x A m c) W) : W.cell? ⟨w.heap.size, 0, none⟩ = some (.slice AL nL cL) :=
  cell_on h (by simp [boxed, go_sem])
theorem boxed_x1 {w W : World} {AL : Option Addr} {nL cL : Nat} {x : Int × Int} {A : Option Addr} {m c : Nat} (h : Below (boxed w AL nL cL x A m c).heap.size (boxed w AL nL cL x A m c) W) : W.cell? ⟨w.heap.size + 1, 0, none⟩ = some (.int .i64 x.1) :=
  cell_on h (by simp [boxed, go_sem])
theorem boxed_x2 {w W : World} {AL : Option Addr} {nL cL : Nat} {x : Int × Int} {A : Option Addr} {m c : Nat} (h : Below (boxed w AL nL cL x A m c).heap.size (boxed w AL nL cL x A m c) W) : W.cell? ⟨w.heap.size + 1, 1, none⟩ = some (.int .i64 x.2) :=
  cell_on h (by simp [boxed, go_sem])
theorem boxed_o {w W : World} {AL : Option Addr} {nL cL : Nat} {x : Int × Int} {A : Option Addr} {m c : Nat} (h : Below (boxed w AL nL cL x A m c).heap.size (boxed w AL nL cL x A m c) W) : W.cell? ⟨w.heap.size + 1 + 1, 0, none⟩ = some (.slice A m c) :=
  cell_on h (by simp [boxed, go_sem])
end Go.Proofs.Ytdojnocmapkodaa

/- The contracts of impl.Search, spec.Rising and spec.First: what they answer for every table of marks. -/
import Derived.Test.YtdojnocmapkodaaSearch
import Derived.Shelf.Abstract
namespace Go.Proofs.Ytdojnocmapkodaa
open Go.RowKit Go.Shelf

set_option maxHeartbeats 400000 in
theorem searchTab (l : List Bool) (A : Option Addr) (m c bx B i : Nat) (W : World) (hbx : W.cell? ⟨bx, 0, none⟩ = some (.slice A m c)) (hr : Rd W B 1 A m (cB l)) (_hi : i ≤ 9223372036854775807) :
    Calls Try.prog 37 #[.int .i64 i, .pointer (some ⟨bx, 0, none⟩)] W fun e w' => e = .returned (.bool (mk l i)) ∧ W = w' := by
  have hl := rdB_len hr
  by_cases h : i < m
  · obtain ⟨b, off, rfl, _, hc⟩ := rdB_at hr h
    have hm : mk l i = l[i]?.getD false := by simp [mk, show i < l.length by omega]
    rw [hm]
    have hd : decide (m ≤ i) = false := by simp; omega
    clear hr hl hm
    go_enter Try.func37, Try.ntmps37
    go_wp2
    go_ret
    exact ⟨rfl, rfl⟩
  · rw [mk_ge (by omega)]
    clear hr hl
    go_enter Try.func37, Try.ntmps37
    go_wp2
    go_ret
    exact ⟨rfl, rfl⟩

theorem enters_searchTab : ∀ args w, (callFunc 37 args).run Try.prog w = .ok (.enter 37 args) w := enters_of Try.func37 (by kernel_rfl) rfl

theorem box_below {w W : World} {v : Value} {t : TypeId} (h : Below (w.alloc (.cells #[v] t)).heap.size (w.alloc (.cells #[v] t)) W) : W.cell? ⟨w.heap.size, 0, none⟩ = some v := by
  rw [h.cell (by simp)]; simp
theorem below_alloc (w : World) (o : Obj) : Below w.heap.size w (w.alloc o) := (Below.refl _ _).alloc (Nat.le_refl _) _

set_option maxHeartbeats 400000 in
/-- impl.Search(n, marks), n of at least 0: a cut of the table. -/
theorem Search_any (l : List Bool) (A : Option Addr) (m c n : Nat) (w : World) (hr : Rd w w.heap.size 1 A m (cB l)) (hn : n ≤ 9223372036854775807) :
    Calls Try.prog 25 #[.int .i64 n, .slice A m c] w (CutInt (mk l) n w) := by
  have hT : Tells 37 #[.pointer (some ⟨w.heap.size, 0, none⟩)] (w.alloc (.cells #[.slice A m c] 47)) n (mk l) := by
    intro W i hb hi
    exact (searchTab l A m c w.heap.size W.heap.size i W (box_below hb) ((hr.on (below_alloc w _)).on hb) (by omega)).mono fun e w' ⟨he, hw⟩ => ⟨he, by subst hw; exact Below.refl _ _⟩
  have hS := search_any _ _ n (mk l) _ enters_searchTab hn hT
  have HS := Lib.hid hS
  clear hS hT hr
  go_enter Try.func25, Try.ntmps25
  go_wp2_with fail
  refine HS.out.mono ?_
  rintro e w' ⟨r, hc, rfl, hb⟩
  go_wp2
  go_ret
  exact ⟨r, hc, rfl, (below_alloc w _).trans (hb.mono (by simp))⟩
end Go.Proofs.Ytdojnocmapkodaa

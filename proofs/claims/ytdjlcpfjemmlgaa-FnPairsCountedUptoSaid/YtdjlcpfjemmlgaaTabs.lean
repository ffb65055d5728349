/- The contracts of impl.Search, spec.Rising and spec.First: what they answer for every table of marks. -/
import Derived.Test.YtdjlcpfjemmlgaaSearch
import Derived.Shelf.Abstract
namespace Go.Proofs.Ytdjlcpfjemmlgaa
open Go.RowKit Go.Shelf

set_option maxHeartbeats 400000 in
theorem searchTab (l : List Bool) (A : Option Addr) (m c bx B i : Nat) (W : World) (hbx : W.cell? ⟨bx, 0, none⟩ = some (.slice A m c)) (hr : Rd W B 1 A m (cB l)) (_hi : i ≤ 9223372036854775807) :
    Calls Try.prog 35 #[.int .i64 i, .pointer (some ⟨bx, 0, none⟩)] W fun e w' => e = .returned (.bool (mk l i)) ∧ W = w' := by
  have hl := rdB_len hr
  by_cases h : i < m
  · obtain ⟨b, off, rfl, _, hc⟩ := rdB_at hr h
    have hm : mk l i = l[i]?.getD false := by simp [mk, show i < l.length by omega]
    rw [hm]
    have hd : decide (m ≤ i) = false := by simp; omega
    clear hr hl hm
    go_enter Try.func35, Try.ntmps35
    go_wp2
    go_ret
    exact ⟨rfl, rfl⟩
  · rw [mk_ge (by omega)]
    clear hr hl
    go_enter Try.func35, Try.ntmps35
    go_wp2
    go_ret
    exact ⟨rfl, rfl⟩

theorem enters_searchTab : ∀ args w, (callFunc 35 args).run Try.prog w = .ok (.enter 35 args) w := enters_of Try.func35 (by kernel_rfl) rfl

theorem box_below {w W : World} {v : Value} {t : TypeId} (h : Below (w.alloc (.cells #[v] t)).heap.size (w.alloc (.cells #[v] t)) W) : W.cell? ⟨w.heap.size, 0, none⟩ = some v := by
  rw [h.cell (by simp)]; simp
theorem below_alloc (w : World) (o : Obj) : Below w.heap.size w (w.alloc o) := (Below.refl _ _).alloc (Nat.le_refl _) _

set_option maxHeartbeats 400000 in
/-- impl.Search(n, marks), n of at least 0: a cut of the table. -/
theorem Search_any (l : List Bool) (A : Option Addr) (m c n : Nat) (w : World) (hr : Rd w w.heap.size 1 A m (cB l)) (hn : n ≤ 9223372036854775807) :
    Calls Try.prog 19 #[.int .i64 n, .slice A m c] w (CutInt (mk l) n w) := by
  have hT : Tells 35 #[.pointer (some ⟨w.heap.size, 0, none⟩)] (w.alloc (.cells #[.slice A m c] 31)) n (mk l) := by
    intro W i hb hi
    exact (searchTab l A m c w.heap.size W.heap.size i W (box_below hb) ((hr.on (below_alloc w _)).on hb) (by omega)).mono fun e w' ⟨he, hw⟩ => ⟨he, by subst hw; exact Below.refl _ _⟩
  have hS := search_any _ _ n (mk l) _ enters_searchTab hn hT
  have HS := Lib.hid hS
  clear hS hT hr
  go_enter Try.func19, Try.ntmps19
  go_wp2_with fail
  refine HS.out.mono ?_
  rintro e w' ⟨r, hc, rfl, hb⟩
  go_wp2
  go_ret
  exact ⟨r, hc, rfl, (below_alloc w _).trans (hb.mono (by simp))⟩

def FirstInt (p : Nat → Bool) (n : Nat) (w : World) (e : Ending) (w' : World) : Prop := ∃ r : Nat, First p n r ∧ e = .returned (.int .i64 r) ∧ w = w'

set_option maxHeartbeats 400000 in
/-- spec.First(n, marks), n of at least 0: the first place at which the table is true. -/
theorem First_any (l : List Bool) (A : Option Addr) (m c n : Nat) (w : World) (hr : Rd w w.heap.size 1 A m (cB l)) (hn : n ≤ 9223372036854775807) (_hm : m ≤ 9223372036854775807) :
    Calls Try.prog 21 #[.int .i64 n, .slice A m c] w (FirstInt (mk l) n w) := by
  have hl := rdB_len hr
  go_enter Try.func21, Try.ntmps21
  go_wp2
  go_loop [5] (fun s => ∃ k : Nat, k ≤ n ∧ s = .int .i64 k ∧ Hid (∀ j, j < k → mk l j = false)) (fun s => n - (intOf s).toNat)
  case atStart => exact ⟨0, Nat.zero_le _, rfl, fun j hj => absurd hj (by omega)⟩
  case round =>
    obtain ⟨k, hk, rfl, I⟩ := hrel
    by_cases hkn : k < n
    · by_cases hkm : k < m
      · obtain ⟨b, off, rfl, _, hc⟩ := rdB_at hr hkm
        have hmk : mk l k = l[k]?.getD false := by simp [mk, show k < l.length by omega]
        clear hl
        cases hv : l[k]?.getD false <;> rw [hv] at hc hmk
        · have HM := Lib.hid hmk
          clear hmk hv
          go_wp2
          go_round
          case rel => exact ⟨k + 1, by omega, by go_num, fun j hj => by rcases Nat.lt_succ_iff_lt_or_eq.1 hj with h | rfl; exact I.out j h; exact HM.out⟩
          case measure => simp [intOf]; omega
        · have HM := Lib.hid hmk
          clear hmk hv
          go_wp2
          go_ret
          exact ⟨k, ⟨by omega, I.out, fun _ => HM.out⟩, rfl, rfl⟩
      · have HM := Lib.hid (mk_ge (l := l) (i := k) (by omega))
        clear hl
        go_wp2
        go_ret
        exact ⟨k, ⟨by omega, I.out, fun _ => HM.out⟩, rfl, rfl⟩
    · obtain rfl : k = n := by omega
      go_wp2
      go_ret
      exact ⟨k, ⟨Nat.le_refl _, I.out, fun h => absurd h (by omega)⟩, rfl, rfl⟩

def RisesBool (n : Nat) (l : List Bool) (w : World) (e : Ending) (w' : World) : Prop := ∃ b : Bool, (b = true ↔ Rises n l) ∧ e = .returned (.bool b) ∧ w = w'

set_option maxHeartbeats 400000 in
theorem Rising_any (l : List Bool) (A : Option Addr) (m c n : Nat) (w : World) (hr : Rd w w.heap.size 1 A m (cB l)) (hn : n ≤ 9223372036854775807) (_hm : m ≤ 9223372036854775807) :
    Calls Try.prog 20 #[.int .i64 n, .slice A m c] w (RisesBool n l w) := by
  have hl := rdB_len hr
  go_enter Try.func20, Try.ntmps20
  go_wp2
  go_loop [5] (fun s => ∃ k : Nat, 1 ≤ k ∧ (k ≤ n ∨ k = 1) ∧ s = .int .i64 k ∧ Hid (∀ i, 1 ≤ i → i < k → i < l.length → l[i - 1]?.getD false = true → l[i]?.getD false = true)) (fun s => n - (intOf s).toNat)
  case atStart => exact ⟨1, Nat.le_refl _, by omega, rfl, fun j h1 h2 => absurd h2 (by omega)⟩
  case round =>
    obtain ⟨k, hk1, hk, rfl, I⟩ := hrel
    by_cases hkn : k < n
    · by_cases hkm : k < m
      · obtain ⟨b, off, hA, _, hc⟩ := rdB_at hr hkm
        obtain ⟨b', off', hA', _, hc'⟩ := rdB_at hr (show k - 1 < m by omega)
        subst hA
        simp only [Option.some.injEq, Addr.mk.injEq, and_true] at hA'
        obtain ⟨rfl, rfl⟩ := hA'
        have hkl : k < l.length := by omega
        have hi0 : (0 : Int) ≤ (k : Int) - 1 := by omega
        have hi1 : (k : Int) - 1 < (m : Int) := by omega
        have hi2 : ((k : Int) - 1).toNat = k - 1 := by omega
        have HL := Lib.hid hkl
        clear hl hkl
        cases hv : l[k]?.getD false <;> rw [hv] at hc
        all_goals
          cases hu : l[k - 1]?.getD false <;> rw [hu] at hc'
          all_goals
            have HV := Lib.hid hv
            have HU := Lib.hid hu
            clear hv hu
            go_wp2
            first
              | (go_ret
                 exact ⟨false, ⟨(fun h => by cases h), fun h => by have := h k hk1 hkn HL.out HU.out; rw [HV.out] at this; cases this⟩, rfl, rfl⟩)
              | (go_round
                 case rel => exact ⟨k + 1, by omega, by omega, by go_num, fun i h1 h2 h3 h4 => by
                  rcases Nat.lt_succ_iff_lt_or_eq.1 h2 with h | rfl
                  · exact I.out i h1 h h3 h4
                  · first | exact HV.out | (rw [HU.out] at h4; cases h4)⟩
                 case measure => simp [intOf]; omega)
      · have HR : Hid (Rises n l) := fun i h1 _ h3 h4 => I.out i h1 (by omega) h3 h4
        clear hl
        have hd : decide (k < m) = false := by simp; omega
        go_wp2
        go_ret
        exact ⟨true, ⟨fun _ => HR.out, fun _ => rfl⟩, rfl, rfl⟩
    · have HR : Hid (Rises n l) := fun i h1 h2 h3 h4 => I.out i h1 (by omega) h3 h4
      have hd : decide (k < n) = false := by simp; omega
      clear hl
      go_wp2
      go_ret
      exact ⟨true, ⟨fun _ => HR.out, fun _ => rfl⟩, rfl, rfl⟩
end Go.Proofs.Ytdjlcpfjemmlgaa

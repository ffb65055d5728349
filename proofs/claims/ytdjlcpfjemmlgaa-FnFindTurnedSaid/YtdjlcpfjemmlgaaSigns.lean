/- The contracts of impl.Find, spec.sign, spec.Falling and spec.Found: what they answer for every table of signs. -/
import Derived.Test.YtdjlcpfjemmlgaaFind
import Derived.Test.YtdjlcpfjemmlgaaTabs
namespace Go.Proofs.Ytdjlcpfjemmlgaa
open Go.RowKit

/-- An entry of a table of numbers: behind its end it is -1. -/
def cv (l : List Int) (i : Nat) : Int := l[i]?.getD (-1)
def sgn (s : Int) : Int := if s < 0 then -1 else if 0 < s then 1 else 0
def sg (l : List Int) (i : Nat) : Int := sgn (cv l i)
theorem cv_lt {l : List Int} {i : Nat} (h : i < l.length) : cv l i = l[i]?.getD 0 := by simp [cv, h]
theorem cv_ge {l : List Int} {i : Nat} (h : l.length ≤ i) : cv l i = -1 := by simp [cv, h]
theorem sg_ge {l : List Int} {i : Nat} (h : l.length ≤ i) : sg l i = -1 := by simp [sg, cv_ge h, sgn]
theorem sgn_bd (s : Int) : -1 ≤ sgn s ∧ sgn s ≤ 1 := by unfold sgn; split <;> (try split) <;> omega
theorem sgn_le (s : Int) : sgn s ≤ 0 ↔ s ≤ 0 := by unfold sgn; split <;> (try split) <;> omega
theorem sgn_zero (s : Int) : sgn s = 0 ↔ s = 0 := by unfold sgn; split <;> (try split) <;> omega
theorem sgn_pos (s : Int) : 0 < sgn s ↔ 0 < s := by unfold sgn; split <;> (try split) <;> omega
def Falls (n : Nat) (l : List Int) : Prop := ∀ i, 1 ≤ i → i < n → i ≤ l.length → sg l i ≤ sg l (i - 1)
theorem Falls.anti {n : Nat} {l : List Int} (h : Falls n l) (i j : Nat) (hij : i ≤ j) (hj : j < n) : sg l j ≤ sg l i := by
  induction j with
  | zero => obtain rfl : i = 0 := by omega
            exact Int.le_refl _
  | succ j ih =>
    rcases Nat.lt_or_ge i (j + 1) with hlt | hge
    · have h1 := ih (by omega) (by omega)
      rcases Nat.lt_or_ge l.length (j + 1) with h2 | h2
      · have := sgn_bd (cv l i); rw [sg_ge (by omega)]; exact this.1
      · have := h (j + 1) (by omega) hj h2; rw [Nat.add_sub_cancel] at this; omega
    · obtain rfl : i = j + 1 := by omega
      exact Int.le_refl _
theorem Falls.mono {n : Nat} {l : List Int} (h : Falls n l) : Mono (notPos (cv l)) n := fun i j hij hj hp => by
  have := h.anti i j hij hj
  unfold notPos at hp ⊢
  rw [decide_eq_true_eq] at hp ⊢
  have h1 := (sgn_le (cv l i)).2 hp
  exact (sgn_le (cv l j)).1 (Int.le_trans this h1)

def scl (up dn s : Int) : Int := if 0 < s then up else if s < 0 then dn else 0
theorem sc_snoc (l : List Int) (up dn : Int) (k : Nat) (x : Int) (h : k < l.length) (hx : x = scl up dn (l[k]?.getD 0)) : cZ ((l.map (scl up dn)).take k) ++ (#[Value.int .i64 x] : Array Value).toList = cZ ((l.map (scl up dn)).take (k + 1)) := by
  rw [take_snoc _ k (by simpa using h), hx]
  simp [cZ, h]

set_option maxHeartbeats 400000 in
theorem findTab (l : List Int) (A : Option Addr) (m c bx B i : Nat) (W : World) (hbx : W.cell? ⟨bx, 0, none⟩ = some (.slice A m c)) (hr : Rd W B 1 A m (cZ l)) (_hi : i ≤ 9223372036854775807) :
    Calls Try.prog 38 #[.int .i64 i, .pointer (some ⟨bx, 0, none⟩)] W fun e w' => e = .returned (.int .i64 (cv l i)) ∧ W = w' := by
  have hl := rdZ_len hr
  by_cases h : i < m
  · obtain ⟨b, off, rfl, _, hc⟩ := rdZ_at hr h
    rw [cv_lt (by omega)]
    clear hr hl
    go_enter Try.func38, Try.ntmps38
    go_wp2
    go_ret
    exact ⟨rfl, rfl⟩
  · rw [cv_ge (by omega)]
    clear hr hl
    go_enter Try.func38, Try.ntmps38
    go_wp2
    go_ret
    exact ⟨rfl, rfl⟩
theorem enters_findTab : ∀ args w, (callFunc 38 args).run Try.prog w = .ok (.enter 38 args) w := enters_of Try.func38 (by kernel_rfl) rfl

set_option maxHeartbeats 400000 in
theorem Find_any (l : List Int) (A : Option Addr) (m c n : Nat) (w : World) (hr : Rd w w.heap.size 1 A m (cZ l)) (hn : n ≤ 9223372036854775807) :
    Calls Try.prog 25 #[.int .i64 n, .slice A m c] w (CutFound (cv l) n w) := by
  have hT : Says 38 #[.pointer (some ⟨w.heap.size, 0, none⟩)] (w.alloc (.cells #[.slice A m c] 23)) n (cv l) := by
    intro W i hb hi
    exact (findTab l A m c w.heap.size W.heap.size i W (box_below hb) ((hr.on (below_alloc w _)).on hb) (by omega)).mono fun e w' ⟨he, hw⟩ => ⟨he, by subst hw; exact Below.refl _ _⟩
  have hS := find_any _ _ n (cv l) _ enters_findTab hn hT
  have HS := Lib.hid hS
  clear hS hT hr
  go_enter Try.func25, Try.ntmps25
  go_wp2_with fail
  refine HS.out.mono ?_
  rintro e w' ⟨r, hc, rfl, hb⟩
  go_wp2
  go_ret2
  exact ⟨r, hc, rfl, (below_alloc w _).trans (hb.mono (by simp))⟩

set_option maxHeartbeats 400000 in
theorem sign_any (l : List Int) (A : Option Addr) (m c i : Nat) (w : World) (hr : Rd w w.heap.size 1 A m (cZ l)) (_hi : i ≤ 9223372036854775807) :
    Calls Try.prog 36 #[.slice A m c, .int .i64 i] w fun e w' => e = .returned (.int .i64 (sg l i)) ∧ w = w' := by
  have hl := rdZ_len hr
  by_cases h : i < m
  · obtain ⟨b, off, rfl, _, hc⟩ := rdZ_at hr h
    rw [sg, cv_lt (by omega)]
    have hd : decide (m ≤ i) = false := by simp; omega
    clear hr hl
    generalize l[i]?.getD 0 = x at hc ⊢
    by_cases h1 : x < 0
    · have hs : sgn x = -1 := by simp [sgn, h1]
      rw [hs]
      clear hs
      go_enter Try.func36, Try.ntmps36
      go_wp2
      go_ret
      exact ⟨rfl, rfl⟩
    · have hd1 : decide (x < 0) = false := by simpa using h1
      by_cases h2 : 0 < x
      · have hs : sgn x = 1 := by simp [sgn, h1, h2]
        rw [hs]
        clear hs
        go_enter Try.func36, Try.ntmps36
        go_wp2
        go_ret
        exact ⟨rfl, rfl⟩
      · have hs : sgn x = 0 := by simp [sgn, h1, h2]
        have hd2 : decide (0 < x) = false := by simpa using h2
        rw [hs]
        clear hs
        go_enter Try.func36, Try.ntmps36
        go_wp2
        go_ret
        exact ⟨rfl, rfl⟩
  · rw [sg_ge (by omega)]
    clear hr hl
    go_enter Try.func36, Try.ntmps36
    go_wp2
    go_ret
    exact ⟨rfl, rfl⟩

def FallsBool (n : Nat) (l : List Int) (w : World) (e : Ending) (w' : World) : Prop := ∃ b : Bool, (b = true ↔ Falls n l) ∧ e = .returned (.bool b) ∧ w = w'
set_option maxHeartbeats 800000 in
theorem Falling_any (l : List Int) (A : Option Addr) (m c n : Nat) (w : World) (hr : Rd w w.heap.size 1 A m (cZ l)) (hn : n ≤ 9223372036854775807) (_hm : m ≤ 9223372036854775807) :
    Calls Try.prog 24 #[.int .i64 n, .slice A m c] w (FallsBool n l w) := by
  have hl := rdZ_len hr
  have HL := Lib.hid hl
  clear hl
  go_enter Try.func24, Try.ntmps24
  go_wp2
  go_loop [5] (fun s => ∃ k : Nat, 1 ≤ k ∧ (k ≤ n ∨ k = 1) ∧ s = .int .i64 k ∧ Hid (∀ i, 1 ≤ i → i < k → i ≤ l.length → sg l i ≤ sg l (i - 1))) (fun s => n - (intOf s).toNat)
  case atStart => exact ⟨1, Nat.le_refl _, by omega, rfl, fun j h1 h2 => absurd h2 (by omega)⟩
  case round =>
    obtain ⟨k, hk1, hk, rfl, I⟩ := hrel
    by_cases hkn : k < n
    · by_cases hkm : k ≤ m
      · go_wp2_with fail
        refine (sign_any l A m c k w hr (by omega)).mono ?_
        rintro e w' ⟨rfl, rfl⟩
        go_wp2_with fail
        rw [show (k : Int) - 1 = ((k - 1 : Nat) : Int) by omega]
        refine (sign_any l A m c (k - 1) w hr (by omega)).mono ?_
        rintro e w' ⟨rfl, rfl⟩
        by_cases hgt : sg l (k - 1) < sg l k
        · go_wp2
          go_ret
          exact ⟨false, ⟨(fun h => by cases h), fun h => by have := h k hk1 hkn (by rw [HL.out]; exact hkm); omega⟩, rfl, rfl⟩
        · have HG : Hid (sg l k ≤ sg l (k - 1)) := Int.not_lt.1 hgt
          go_wp2
          go_round
          case rel => exact ⟨k + 1, by omega, by omega, by go_num, fun i h1 h2 h3 => by
            rcases Nat.lt_succ_iff_lt_or_eq.1 h2 with h | rfl
            · exact I.out i h1 h h3
            · exact HG.out⟩
          case measure => simp [intOf]; omega
      · have HR : Hid (Falls n l) := fun i h1 _ h3 => I.out i h1 (by have := HL.out; omega) h3
        have hd : decide (k ≤ m) = false := by simp; omega
        go_wp2
        go_ret
        exact ⟨true, ⟨fun _ => HR.out, fun _ => rfl⟩, rfl, rfl⟩
    · have HR : Hid (Falls n l) := fun i h1 h2 h3 => I.out i h1 (by omega) h3
      have hd : decide (k < n) = false := by simp; omega
      go_wp2
      go_ret
      exact ⟨true, ⟨fun _ => HR.out, fun _ => rfl⟩, rfl, rfl⟩

def FirstFound (c : Nat → Int) (n : Nat) (w : World) (e : Ending) (w' : World) : Prop :=
  ∃ r : Nat, First (notPos c) n r ∧ e = .returned (.tuple #[.int .i64 r, .bool (fnd c n r)]) ∧ w = w'
set_option maxHeartbeats 800000 in
theorem Found_any (l : List Int) (A : Option Addr) (m c n : Nat) (w : World) (hr : Rd w w.heap.size 1 A m (cZ l)) (hn : n ≤ 9223372036854775807) :
    Calls Try.prog 26 #[.int .i64 n, .slice A m c] w (FirstFound (cv l) n w) := by
  go_enter Try.func26, Try.ntmps26
  go_wp2
  go_loop [6] (fun s => ∃ k : Nat, k ≤ n ∧ s = .int .i64 k ∧ Hid (∀ j, j < k → notPos (cv l) j = false)) (fun s => n - (intOf s).toNat)
  case atStart => exact ⟨0, Nat.zero_le _, rfl, fun j hj => absurd hj (by omega)⟩
  case round =>
    obtain ⟨k, hk, rfl, I⟩ := hrel
    by_cases hkn : k < n
    · by_cases hp : sg l k ≤ 0
      · have HP : Hid (notPos (cv l) k = true) := by unfold notPos Hid; rw [decide_eq_true_eq]; exact (sgn_le _).1 hp
        have hz : Hid ((sg l k == 0) = fnd (cv l) n k) := by
          unfold Hid fnd
          have := sgn_zero (cv l k)
          by_cases h0 : cv l k = 0
          · rw [decide_eq_true ⟨hkn, h0⟩]; simp [sg, this.2 h0]
          · rw [decide_eq_false (fun h => h0 h.2)]; rw [beq_eq_false_iff_ne]; exact fun h => h0 (this.1 h)
        go_wp2_with fail
        refine (sign_any l A m c k w hr (by omega)).mono ?_
        rintro e w' ⟨rfl, rfl⟩
        go_wp2_with fail
        refine (sign_any l A m c k w hr (by omega)).mono ?_
        rintro e w' ⟨rfl, rfl⟩
        go_wp2
        go_ret2
        exact ⟨k, ⟨by omega, I.out, fun _ => HP.out⟩, by rw [← hz.out]; rfl, rfl⟩
      · have HP : Hid (notPos (cv l) k = false) := by unfold notPos Hid; rw [decide_eq_false_iff_not]; exact fun h => hp ((sgn_le _).2 h)
        go_wp2_with fail
        refine (sign_any l A m c k w hr (by omega)).mono ?_
        rintro e w' ⟨rfl, rfl⟩
        go_wp2
        go_round
        case rel => exact ⟨k + 1, by omega, by go_num, fun j hj => by
          rcases Nat.lt_succ_iff_lt_or_eq.1 hj with h | rfl
          · exact I.out j h
          · exact HP.out⟩
        case measure => simp [intOf]; omega
    · obtain rfl : k = n := by omega
      have hd : Hid (fnd (cv l) k k = false) := by simp [Hid, fnd]
      go_wp2
      go_ret2
      exact ⟨k, ⟨Nat.le_refl _, I.out, fun h => absurd h (by omega)⟩, by rw [hd.out]; rfl, rfl⟩
end Go.Proofs.Ytdjlcpfjemmlgaa

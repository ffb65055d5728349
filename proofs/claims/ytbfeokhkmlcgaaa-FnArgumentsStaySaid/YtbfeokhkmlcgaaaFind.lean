/- The contract of Go's sort.Find: for every closure that answers and turns nothing that was there; whatever the table is. -/
import Derived.Test.YtbfeokhkmlcgaaaSearch
namespace Go.Proofs.Ytbfeokhkmlcgaaa
open Go.RowKit

/-- What a comparing closure answers. -/
def Says (g : Nat) (cb : Array Value) (w : World) (n : Nat) (c : Nat → Int) : Prop :=
  ∀ (W : World) (i : Nat), Below w.heap.size w W → i < n → Calls Try.prog g (#[.int .i64 i] ++ cb) W fun e w' => e = .returned (.int .i64 (c i)) ∧ Below W.heap.size W w'
def notPos (c : Nat → Int) (i : Nat) : Bool := decide (c i ≤ 0)
/-- Is it zero there? -/
def fnd (c : Nat → Int) (n r : Nat) : Bool := decide (r < n ∧ c r = 0)
def CutFound (c : Nat → Int) (n : Nat) (w : World) (e : Ending) (w' : World) : Prop :=
  ∃ r : Nat, Cut (notPos c) n r ∧ e = .returned (.tuple #[.int .i64 r, .bool (fnd c n r)]) ∧ Below w.heap.size w w'

set_option maxHeartbeats 1000000 in
set_option maxRecDepth 100000 in
theorem find_any (g : Nat) (cb : Array Value) (n : Nat) (c : Nat → Int) (w : World) (eg : ∀ args w, (callFunc g args).run Try.prog w = .ok (.enter g args) w) (hn : n ≤ 9223372036854775807)
    (hf : Says g cb w n c) : Calls Try.prog 34 #[.int .i64 n, .func (.func g) #[] cb] w (CutFound c n w) := by
  go_enter Try.func34, Try.ntmps34
  go_wp2
  go_loopg [4, 6] n (fun kx s5 s6 wr => ∃ lo hi : Nat, s5 = .int .i64 lo ∧ s6 = .int .i64 hi ∧ lo ≤ hi ∧ hi ≤ n ∧ hi - lo ≤ kx ∧ Below w.heap.size w wr ∧
    Hid ((0 < lo → notPos c (lo - 1) = false) ∧ (hi < n → notPos c hi = true)))
  case atStart => exact ⟨0, n, rfl, rfl, Nat.zero_le _, Nat.le_refl _, by omega, Below.refl _ _, fun h => absurd h (by omega), fun h => absurd h (by omega)⟩
  case round =>
    obtain ⟨lo, hi, rfl, rfl, hlh, hin, hg, hbel, I⟩ := hrel
    by_cases hlt : lo < hi
    · go_wp2_with fail
      simp only [mid_wrap lo hi hlt (by omega)]
      have hc := hf wr ((lo + hi) / 2) hbel (by omega)
      obtain ⟨m, hm⟩ : ∃ m, m = (lo + hi) / 2 := ⟨_, rfl⟩
      rw [← hm] at hc ⊢
      have h1 : lo ≤ m := by omega
      have h2 : m < hi := by omega
      clear hm
      by_cases hp : 0 < c m
      · have HP : Hid (notPos c m = false) := by simp [notPos, Hid]; omega
        refine hc.mono ?_
        rintro e w' ⟨rfl, hb'⟩
        go_wp2
        go_roundg (hi - (m + 1))
        case measure => omega
        case rel => exact ⟨m + 1, hi, by go_num, rfl, by omega, hin, Nat.le_refl _, below_step hbel hb', fun _ => by rw [Nat.add_sub_cancel]; exact HP.out, I.out.2⟩
      · have HP : Hid (notPos c m = true) := by simp [notPos, Hid]; omega
        refine hc.mono ?_
        rintro e w' ⟨rfl, hb'⟩
        go_wp2
        go_roundg (m - lo)
        case measure => omega
        case rel => exact ⟨lo, m, rfl, rfl, by omega, by omega, Nat.le_refl _, below_step hbel hb', I.out.1, fun _ => HP.out⟩
    · obtain rfl : hi = lo := by omega
      by_cases hl : hi < n
      · have hc := hf wr hi hbel hl
        by_cases h0 : c hi = 0
        · have hb0 : (c hi == 0) = true := by simpa using h0
          have hd : fnd c n hi = true := by simp [fnd, hl, h0]
          have HD := Lib.hid hd
          clear h0 hd
          go_wp2_with fail
          refine hc.mono ?_
          rintro e w' ⟨rfl, hb'⟩
          go_wp2
          go_ret2
          exact ⟨hi, ⟨hin, I.out⟩, (by rw [HD.out]; rfl), below_step hbel hb'⟩
        · have hb0 : (c hi == 0) = false := by simpa using h0
          have hd : fnd c n hi = false := by simp [fnd, h0]
          have HD := Lib.hid hd
          clear h0 hd
          go_wp2_with fail
          refine hc.mono ?_
          rintro e w' ⟨rfl, hb'⟩
          go_wp2
          go_ret2
          exact ⟨hi, ⟨hin, I.out⟩, (by rw [HD.out]; rfl), below_step hbel hb'⟩
      · have hd : fnd c n hi = false := by simp [fnd, hl]
        have HD := Lib.hid hd
        clear hd
        go_wp2
        go_ret2
        exact ⟨hi, ⟨hin, I.out⟩, (by rw [HD.out]; rfl), hbel⟩
end Go.Proofs.Ytbfeokhkmlcgaaa

/- The contracts of Go's sort.Search and sort.Find: for every closure that answers and turns nothing that was there; whatever the table is. -/
import Derived.Test.YtdojnocmapkodaaChecked
import Derived.Test.YtdojnocmapkodaaWords
import Derived.Test.YtdojnocmapkodaaPlain
import Derived.WalkKit
import Derived.Deep.LoopGhost
import Derived.Outline
namespace Go.Proofs.Ytdojnocmapkodaa
open Go.RowKit

/-- What a closure answers, in every world that grew out of w. -/
def Tells (g : Nat) (cb : Array Value) (w : World) (n : Nat) (p : Nat → Bool) : Prop :=
  ∀ (W : World) (i : Nat), Below w.heap.size w W → i < n → Calls Try.prog g (#[.int .i64 i] ++ cb) W fun e w' => e = .returned (.bool (p i)) ∧ Below W.heap.size W w'
def CutInt (p : Nat → Bool) (n : Nat) (w : World) (e : Ending) (w' : World) : Prop := ∃ r : Nat, Cut p n r ∧ e = .returned (.int .i64 r) ∧ Below w.heap.size w w'

/-- The middle of two places, as the code reckons it. -/
theorem mid_wrap (lo hi : Nat) (h1 : lo < hi) (h2 : hi ≤ 9223372036854775807) : wrap64 (IntKind.u64.wrap (wrap64 ((lo : Int) + (hi : Int))) / 2) = (((lo + hi) / 2 : Nat) : Int) := by
  rw [show IntKind.u64.wrap (wrap64 ((lo : Int) + (hi : Int))) = (wrap64 ((lo : Int) + (hi : Int))) % 18446744073709551616 by simp [IntKind.wrap, IntKind.bits, IntKind.signed]]
  unfold wrap64
  omega

set_option maxHeartbeats 1000000 in
set_option maxRecDepth 100000 in
theorem search_any (g : Nat) (cb : Array Value) (n : Nat) (p : Nat → Bool) (w : World) (eg : ∀ args w, (callFunc g args).run Try.prog w = .ok (.enter g args) w) (hn : n ≤ 9223372036854775807)
    (hf : Tells g cb w n p) : Calls Try.prog 36 #[.int .i64 n, .func (.func g) #[] cb] w (CutInt p n w) := by
  go_enter Try.func36, Try.ntmps36
  go_wp2
  go_loopg [5, 6] n (fun kx s5 s6 wr => ∃ lo hi : Nat, s5 = .int .i64 lo ∧ s6 = .int .i64 hi ∧ lo ≤ hi ∧ hi ≤ n ∧ hi - lo ≤ kx ∧ Below w.heap.size w wr ∧
    Hid ((0 < lo → p (lo - 1) = false) ∧ (hi < n → p hi = true)))
  case atStart => exact ⟨0, n, rfl, rfl, Nat.zero_le _, Nat.le_refl _, by omega, Below.refl _ _, fun h => absurd h (by omega), fun h => absurd h (by omega)⟩
  case round =>
    obtain ⟨lo, hi, rfl, rfl, hlh, hin, hg, hbel, I⟩ := hrel
    by_cases hlt : lo < hi
    · go_wp2_with fail
      simp only [mid_wrap lo hi hlt (by omega)]
      have hc := hf wr ((lo + hi) / 2) hbel (by omega)
      obtain ⟨m, hm⟩ : ∃ m, m = (lo + hi) / 2 := ⟨_, rfl⟩
      rw [← hm] at hc ⊢
      have h1 : lo ≤ m := by omega
      have h2 : m < hi := by omega
      clear hm
      cases hp : p m <;> rw [hp] at hc
      · have HP := Lib.hid hp
        clear hp
        refine hc.mono ?_
        rintro e w' ⟨rfl, hb'⟩
        go_wp2
        go_roundg (hi - (m + 1))
        case measure => omega
        case rel => exact ⟨m + 1, hi, by go_num, rfl, by omega, hin, Nat.le_refl _, below_step hbel hb', fun _ => by rw [Nat.add_sub_cancel]; exact HP.out, I.out.2⟩
      · have HP := Lib.hid hp
        clear hp
        refine hc.mono ?_
        rintro e w' ⟨rfl, hb'⟩
        go_wp2
        go_roundg (m - lo)
        case measure => omega
        case rel => exact ⟨lo, m, rfl, rfl, by omega, by omega, Nat.le_refl _, below_step hbel hb', I.out.1, fun _ => HP.out⟩
    · obtain rfl : hi = lo := by omega
      go_wp2
      go_ret
      exact ⟨hi, ⟨hin, I.out⟩, rfl, hbel⟩

end Go.Proofs.Ytdojnocmapkodaa

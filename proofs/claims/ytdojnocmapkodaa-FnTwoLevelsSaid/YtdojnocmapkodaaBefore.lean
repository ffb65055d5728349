/- The contract of spec.before: comparing by several orders, the last one first. -/
import Derived.Test.YtdojnocmapkodaaRank
import Derived.Test.YtdojnocmapkodaaPlain
import Derived.Deep.LoopGhost
import Derived.Outline
namespace Go.Proofs.Ytdojnocmapkodaa
open Go.RowKit
attribute [local go_sem ↓] Go.wp_at_zero Go.wp_at_succ

/-- A slice of ints among others: its value, and what it reads as. -/
structure Tab where
  a : Option Addr
  n : Nat
  c : Nat
  r : List Int
def cT (t : Tab) : Value := .slice t.a t.n t.c
/-- A slice of slices of ints. -/
def RdS (w : World) (B : Nat) (A : Option Addr) (n : Nat) (ts : List Tab) : Prop := Rd w B 1 A n (ts.map cT) ∧ ∀ t ∈ ts, Rd w B 1 t.a t.n (cZ t.r)
theorem RdS.on {w w' : World} {A : Option Addr} {n : Nat} {ts : List Tab} (h : RdS w w.heap.size A n ts) (hb : Below w.heap.size w w') : RdS w' w'.heap.size A n ts := ⟨h.1.on hb, fun t ht => (h.2 t ht).on hb⟩
theorem RdS.len {w : World} {B : Nat} {A : Option Addr} {n : Nat} {ts : List Tab} (h : RdS w B A n ts) : ts.length = n := by have := h.1.1; simp at this; omega
theorem RdS.at_ {w : World} {B n k : Nat} {A : Option Addr} {ts : List Tab} (h : RdS w B A n ts) (hk : k < n) :
    ∃ b off t, A = some ⟨b, off, none⟩ ∧ ts[k]? = some t ∧ w.cell? ⟨b, off + k, none⟩ = some (.slice t.a t.n t.c) ∧ Rd w B 1 t.a t.n (cZ t.r) := by
  obtain ⟨b, off, u, e, hb, hx, hc⟩ := h.1.at_ hk
  have hl := h.len
  have ht : ts[k]? = some (ts[k]'(by omega)) := List.getElem?_eq_getElem (by omega)
  refine ⟨b, off, ts[k]'(by omega), e, ht, ?_, h.2 _ (List.getElem_mem _)⟩
  rw [List.getElem?_map, ht] at hx
  rw [hc, ← hx]; rfl

/-- Comparing by orders, the first of the list first; where all have them equal, by places. -/
def lexlt : List (List Int) → Int → Int → Nat → Nat → Bool
  | [], _, _, i, k => decide (i < k)
  | R :: rs, x, y, i, k => if rk R x = rk R y then lexlt rs x y i k else decide (rk R x < rk R y)

theorem rev_drop {α : Type} (l : List α) (n j : Nat) (x : α) (hl : l.length = n) (hj : j < n) (hx : l[n - 1 - j]? = some x) : l.reverse.drop j = x :: l.reverse.drop (j + 1) := by
  have hlt : j < l.reverse.length := by simp; omega
  rw [List.drop_eq_getElem_cons hlt, List.getElem_reverse]
  have := (List.getElem?_eq_some_iff.1 hx).2
  congr 1
  rw [← this]
  congr 1
  omega

set_option maxHeartbeats 4000000 in
theorem sbefore_any (l : List (Int × Int)) (AL : Option Addr) (nL cL : Nat) (i k : Nat) (ts : List Tab) (AS : Option Addr) (nS cS : Nat) (w : World)
    (hL : Rd w w.heap.size 2 AL nL (cI l)) (hS : RdS w w.heap.size AS nS ts) (hi : i < nL) (hk : k < nL) (_hnL : nL ≤ 9223372036854775807) (hnS : nS ≤ 9223372036854775807) :
    Calls Try.prog 35 #[.slice AL nL cL, .int .i64 i, .int .i64 k, .slice AS nS cS] w
      fun e w' => e = .returned (.bool (lexlt (ts.map Tab.r).reverse (it l i).1 (it l k).1 i k)) ∧ Below w.heap.size w w' := by
  have hl := hS.len
  have HL := Lib.hid hl
  clear hl
  obtain ⟨b, off, rfl, hb, h1, _⟩ := rdI_at hL hi
  obtain ⟨b', off', hA', _, h2, _⟩ := rdI_at hL hk
  simp only [Option.some.injEq, Addr.mk.injEq, and_true] at hA'
  obtain ⟨rfl, rfl⟩ := hA'
  generalize (it l i).1 = x at h1 ⊢
  generalize (it l k).1 = y at h2 ⊢
  clear hL
  have hi0 : (0 : Int) ≤ (i : Int) := Int.natCast_nonneg _
  have hi1 : (i : Int) < (nL : Int) := by omega
  have hk0 : (0 : Int) ≤ (k : Int) := Int.natCast_nonneg _
  have hk1 : (k : Int) < (nL : Int) := by omega
  obtain ⟨Rs, hRs⟩ : ∃ Rs, Rs = (ts.map Tab.r).reverse := ⟨_, rfl⟩
  have HRs := Lib.hid hRs
  rw [← hRs]
  clear hRs
  go_enter Try.func35, Try.ntmps35
  go_wp2
  go_loopw [9] (fun s wr => ∃ j : Nat, j ≤ nS ∧ s = .int .i64 ((nS : Int) - 1 - j) ∧ Below w.heap.size w wr ∧ Hid (lexlt Rs x y i k = lexlt (Rs.drop j) x y i k)) (fun s _ => (intOf s + 1).toNat)
  case atStart => exact ⟨0, Nat.zero_le _, by simp, Below.refl _ _, rfl⟩
  case round =>
    obtain ⟨j, hj, rfl, hbel, I⟩ := hrel
    by_cases hlt : j < nS
    · obtain ⟨bs, os, t, rfl, ht, hct, hrt⟩ := (hS.on hbel).at_ (show nS - 1 - j < nS by omega)
      have hdr : Hid (Rs.drop j = t.r :: Rs.drop (j + 1)) := by
        unfold Hid
        rw [HRs.out]
        exact rev_drop _ nS j t.r (by rw [List.length_map, HL.out]) hlt (by rw [List.getElem?_map, ht]; rfl)
      obtain ⟨ta, tn, tc, R⟩ := t
      have d1 := cell_on hbel h1
      have d2 := cell_on hbel h2
      have e1 : (0 : Int) ≤ (nS : Int) - 1 - j := by omega
      have e2 : (nS : Int) - 1 - j < (nS : Int) := by omega
      have e3 : ((nS : Int) - 1 - j).toNat = nS - 1 - j := by omega
      have HRT : Hid (∀ W, Below wr.heap.size wr W → Rd W W.heap.size 1 ta tn (cZ R)) := fun W hb => hrt.on hb
      clear hrt ht
      go_wp2_with fail
      go_region_held3 (fun w' => w'.cell? ⟨bs, os + (nS - 1 - j), none⟩ = some (.slice ta tn tc) ∧ w'.cell? ⟨b, off + i * 2, none⟩ = some (.int .i64 x) ∧ w'.cell? ⟨b, off + k * 2, none⟩ = some (.int .i64 y) ∧ Below wr.heap.size wr w')
        (first | (exact ⟨hct, d1, d2, (Below.refl _ _).drew⟩) | (go_split_ands; exact ⟨by assumption, by assumption, by assumption, by assumption⟩))
        (first | (go_at_call 45; go_split_ands; refine (Rank_any R ta tn tc _ _ (HRT.out _ (by assumption))).mono ?_; rintro e w' ⟨rfl, rfl⟩))
      by_cases hne : rk R x = rk R y
      · have hb1 : (rk R x != rk R y) = false := by simp [hne]
        have I2 : Hid (lexlt Rs x y i k = lexlt (Rs.drop (j + 1)) x y i k) := by unfold Hid; rw [I.out, hdr.out, lexlt, if_pos hne]
        have HNE := Lib.hid hne
        clear hne
        go_wp2
        go_roundw
        case rel => exact ⟨j + 1, by omega, by go_num, hbel.drew, I2⟩
        case measure => simp [intOf]; omega
      · have hb1 : (rk R x != rk R y) = true := by simp [hne]
        have HF : Hid (lexlt Rs x y i k = decide (rk R x < rk R y)) := by unfold Hid; rw [I.out, hdr.out, lexlt, if_neg hne]
        clear hne
        go_wp2
        go_ret
        exact ⟨by rw [HF.out]; rfl, hbel.drew⟩
    · obtain rfl : j = nS := by omega
      have HF : Hid (lexlt Rs x y i k = decide (i < k)) := by
        unfold Hid
        rw [I.out, List.drop_eq_nil_of_le (by rw [HRs.out]; simp; have := HL.out; omega), lexlt]
      have e1 : (j : Int) - 1 - j < 0 := by omega
      go_wp2
      go_ret
      exact ⟨by rw [HF.out]; rfl, hbel⟩
end Go.Proofs.Ytdojnocmapkodaa

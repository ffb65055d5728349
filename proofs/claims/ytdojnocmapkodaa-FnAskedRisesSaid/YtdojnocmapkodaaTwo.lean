/- Two rows of the call's own that lie apart: what an append to one leaves of the other. -/
import Derived.Test.YtdojnocmapkodaaAppend
import Derived.Test.YtdojnocmapkodaaAppAll
namespace Go.Proofs.Ytdojnocmapkodaa
open Go.RowKit
/-- v has no block, or another than u. -/
def Apt (v u : Value) : Prop := v.ownBlock = none ∨ v.ownBlock ≠ u.ownBlock
theorem Apt.nil (u : Value) : Apt (.slice none 0 0) u := .inl rfl
theorem Apt.symm {v u : Value} (h : Apt v u) : Apt u v := by
  cases hu : u.ownBlock with
  | none => exact .inl hu
  | some k =>
    refine .inr fun e => ?_
    rcases h with h | h
    · rw [h, hu] at e; cases e
    · exact h e.symm
theorem apt_new {W : World} {base e size n g k m cap : Nat} {u : Value} {v : Value} {zs : List Value} (ho : W.ownsRow base e size u k zs) (ha : Apt u v) (hg : v.ownBlock = some g ∨ W.heap.size ≤ g) : Apt u (.slice (some ⟨g, m, none⟩) n cap) := by
  cases hu : u.ownBlock with
  | none => exact .inl hu
  | some j =>
    refine .inr fun e => ?_
    have hj := (ho.lt j hu).2
    have e' : u.ownBlock = some g := e
    rw [hu] at e'
    injection e' with e'
    subst e'
    rcases hg with h | h
    · rcases ha with h' | h'
      · rw [hu] at h'; cases h'
      · exact h' (by rw [hu, h])
    · omega
theorem Lies.other {W w' : World} {base e size n c m g cap base2 e2 size2 k : Nat} {A : Option Addr} {ys zs : List Value} {u : Value} (h : Lies W base e size A n c m ys g cap w') (ho : W.ownsRow base2 e2 size2 u k zs) (ha : Apt u (.slice A n c)) :
    w'.ownsRow base2 e2 size2 u k zs ∧ Apt u (.slice (some ⟨g, 0, none⟩) (n + m) cap) := ⟨ho.kept h.2.2.1 ha, apt_new ho ha h.2.2.2.1⟩
theorem All.other {W w' : World} {base e size n base2 e2 size2 k : Nat} {v v' : Value} {ys zs : List Value} {u : Value} (h : All W base e size v n ys v' w') (ho : W.ownsRow base2 e2 size2 u k zs) (ha : Apt u v) :
    w'.ownsRow base2 e2 size2 u k zs ∧ Apt u v' := by
  refine ⟨ho.kept h.2.1 ha, ?_⟩
  cases hu : u.ownBlock with
  | none => exact .inl hu
  | some j =>
    refine .inr fun e => ?_
    have hj := (ho.lt j hu).2
    rw [hu] at e
    rcases h.2.2 with h' | h'
    · rcases ha with h2 | h2
      · rw [hu] at h2; cases h2
      · exact h2 (by rw [hu, e, h'])
    · rw [h'] at e
      injection e with e
      omega
end Go.Proofs.Ytdojnocmapkodaa

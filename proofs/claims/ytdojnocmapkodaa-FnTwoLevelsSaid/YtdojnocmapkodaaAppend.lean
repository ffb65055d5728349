/- Appends of one element, and of a whole slice, to a row of the call's own: laws over any program. -/
import Derived.Test.YtdojnocmapkodaaWords
import Derived.Maps.AppendAt
import Derived.Deep.AppendLies
import Derived.RegionTactic
import Derived.OwnWalk
namespace Go.Proofs.Ytdojnocmapkodaa
open Go.RowKit

/-- What append asks of a slice type t over the element type e. -/
structure Elem (P : Program) (t e size bytes : Nat) : Prop where
  ht : P.underlying t = some (.slice e)
  info : ∃ i z, P.info? e = some i ∧ i.zero = some z ∧ i.size = size ∧ i.bytes = bytes ∧ z.cells.size = size
  pos : 0 < size
theorem Elem.of {P : Program} {t e size bytes : Nat} {z : Value} (ht : P.underlying t = some (.slice e)) (hi : (P.info? e).map (fun i => (i.zero, i.size, i.bytes)) = some (some z, size, bytes)) (hz : z.cells.size = size) (hp : 0 < size) : Elem P t e size bytes := by
  obtain ⟨i, h1, h2, h3, h4⟩ := info_parts hi
  exact ⟨ht, ⟨i, z, h1, h2, h3, h4, hz⟩, hp⟩

theorem one_bool (b : Bool) : ∀ u ∈ (#[Value.bool b] : Array Value).toList, u.oneCell' = true := by intro u hu; simp at hu; subst hu; rfl
theorem one_int (k : IntKind) (n : Int) : ∀ u ∈ (#[Value.int k n] : Array Value).toList, u.oneCell' = true := by intro u hu; simp at hu; subst hu; rfl
theorem one_two (k k' : IntKind) (n m : Int) : ∀ u ∈ (#[Value.int k n, Value.int k' m] : Array Value).toList, u.oneCell' = true := by intro u hu; simp at hu; rcases hu with rfl | rfl <;> rfl
theorem one_slice (A : Option Addr) (n c : Nat) : ∀ u ∈ (#[Value.slice A n c] : Array Value).toList, u.oneCell' = true := by intro u hu; simp at hu; subst hu; rfl
theorem own_le {w : World} {base e size : Nat} {A : Option Addr} {n c : Nat} {xs : List Value} (h : w.ownsRow base e size (.slice A n c) n xs) : n ≤ c := by
  rcases h.2 with ⟨h, h0⟩ | ⟨g, cap, cur, hv, _, _, hnc, _⟩
  · injection h with _ _ hc; omega
  · injection hv with _ _ hc; omega
theorem own_block {w : World} {base e size : Nat} {A : Option Addr} {n c : Nat} {xs : List Value} (h : w.ownsRow base e size (.slice A n c) n xs) : ∀ k, Value.ownBlock (.slice A n c) = some k → base ≤ k := fun k hk => (h.lt k hk).1
theorem own_nil (w : World) (base e size : Nat) : w.ownsRow base e size (.slice none 0 0) 0 [] := World.ownsRow_nil w base e size
theorem own_base {w : World} {base base' e size : Nat} {v : Value} {n : Nat} {xs : List Value} (h : w.ownsRow base e size v n xs) (hb : base' ≤ base) : w.ownsRow base' e size v n xs := by
  refine ⟨h.1, ?_⟩
  rcases h.2 with h | ⟨g, cap, cur, hv, hbg, r⟩
  · exact .inl h
  · exact .inr ⟨g, cap, cur, hv, by omega, r⟩

section
variable {P : Program}
/-- What an append leaves. -/
def Lies (W : World) (base e size : Nat) (A : Option Addr) (n c : Nat) (m : Nat) (ys : List Value) (g cap : Nat) (w' : World) : Prop :=
  w'.ownsRow base e size (.slice (some ⟨g, 0, none⟩) (n + m) cap) (n + m) ys ∧ Below base W w' ∧ W.grownBy w' (Value.ownBlock (.slice A n c)) ∧ (Value.ownBlock (.slice A n c) = some g ∨ W.heap.size ≤ g) ∧ g < w'.heap.size

theorem run_app {t e size bytes : Nat} (E : Elem P t e size bytes) (ty : TypeId) (base : Nat) (W : World) (A : Option Addr) (n c : Nat) (xs : List Value) (hown : W.ownsRow base e size (.slice A n c) n xs) (cs : Array Value)
    (hcs : cs.size = size) (h1 : ∀ u ∈ cs.toList, u.oneCell' = true) (hb : (n + 1) * bytes ≤ 140737488355328) (hn : n + 1 ≤ maxLen) (hbase : base ≤ W.heap.size) :
    ∃ g cap w', (Builtin.append_ #[t, t] ty #[.slice A n c, .slice (some ⟨W.heap.size, 0, none⟩) 1 1]).run P (W.alloc (.cells cs e)) = .ok (.slice (some ⟨g, 0, none⟩) (n + 1) cap) w' ∧ Lies W base e size A n c 1 (xs ++ cs.toList) g cap w' := by
  obtain ⟨i, z, hi, hz, hsz, hby, hzc⟩ := E.info
  obtain ⟨g, cap, w', hr, h2, h3, h4, h5⟩ := run_append_lies (P := P) (W.alloc (.cells cs e)) t ty base e i z size bytes E.ht hi hz hsz hby hzc E.pos _ n xs (hown.alloc _) ⟨W.heap.size, 0, none⟩ 1 1 cs.toList (by simpa using hcs)
    (World.news_of_block (heap_alloc_new W _)) h1 (by omega) hn hb (by simp; omega) (W.heap.size + 1) (by simp)
  have hgr : W.grownBy w' (Value.ownBlock (.slice A n c)) :=
    ⟨h3.os, h3.tape, h3.output, Nat.le_trans (by simp) h3.size, fun k hk hne => (h3.block k (by simp; omega) hne).trans (Below.heap_alloc W _ k hk)⟩
  refine ⟨g, cap, w', hr, h2, ?_, hgr, ?_, h5⟩
  · exact (Below.refl _ _).grown hgr hbase (own_block hown)
  · rcases h4 with h | h
    · exact .inl h
    · exact .inr (by omega)
theorem wp_app {t e size bytes : Nat} (E : Elem P t e size bytes) {o : Oper} {a : Act} {K : Act → World → Prop} {Q : Exit → Act → World → Prop} (s x : Operand)
    (ho : o.op = .call { callee := .builtin .append, args := #[s, x], argTypes := #[t, t] })
    (base : Nat) (W : World) (A : Option Addr) (n c : Nat) (xs : List Value) (hs : a.eval s = .slice A n c) (hown : W.ownsRow base e size (.slice A n c) n xs) (cs : Array Value) (hx : a.eval x = .slice (some ⟨W.heap.size, 0, none⟩) 1 1)
    (hcs : cs.size = size) (h1 : ∀ u ∈ cs.toList, u.oneCell' = true) (hb : (n + 1) * bytes ≤ 140737488355328) (hn : n + 1 ≤ maxLen) (hbase : base ≤ W.heap.size)
    (h : ∀ g cap w', Lies W base e size A n c 1 (xs ++ cs.toList) g cap w' → K (a.put o.dst (.slice (some ⟨g, 0, none⟩) (n + 1) cap)) w') : o.wp P a (W.alloc (.cells cs e)) K Q := by
  obtain ⟨g, cap, w', hr, h2⟩ := run_app E o.type base W A n c xs hown cs hcs h1 hb hn hbase
  unfold Oper.wp execOp
  simp only [ho, resolve, invoke, builtin, Sem.run_bind, Sem.run_pure, Result.andThen_ok, List.map_toArray, List.map_cons, List.map_nil, hs, hx, hr]
  exact h g cap w' h2
theorem wpList_app {t e size bytes : Nat} (E : Elem P t e size bytes) {ops : Array Oper} {rest : List Oper} {o : Oper} {a : Act} {Q : Exit → Act → World → Prop} (hgd : o.guard = none) (s x : Operand)
    (ho : o.op = .call { callee := .builtin .append, args := #[s, x], argTypes := #[t, t] })
    (base : Nat) (W : World) (A : Option Addr) (n c : Nat) (xs : List Value) (hs : a.eval s = .slice A n c) (hown : W.ownsRow base e size (.slice A n c) n xs) (cs : Array Value) (hx : a.eval x = .slice (some ⟨W.heap.size, 0, none⟩) 1 1)
    (hcs : cs.size = size) (h1 : ∀ u ∈ cs.toList, u.oneCell' = true) (hb : (n + 1) * bytes ≤ 140737488355328) (hn : n + 1 ≤ maxLen) (hbase : base ≤ W.heap.size)
    (h : ∀ g cap w', Lies W base e size A n c 1 (xs ++ cs.toList) g cap w' → wpList P ops Q rest (a.put o.dst (.slice (some ⟨g, 0, none⟩) (n + 1) cap)) w') : wpList P ops Q (o :: rest) a (W.alloc (.cells cs e)) :=
  wpList_plain hgd fun _ hK => wp_app E s x ho base W A n c xs hs hown cs hx hcs h1 hb hn hbase fun g cap w' h2 => hK _ _ (h g cap w' h2)
theorem step_app {t e size bytes : Nat} (E : Elem P t e size bytes) {ops : Array Oper} {o : Oper} {a : Act} {K : Act → World → Prop} {Q : Exit → Act → World → Prop} {X : Prop} (hgd : o.guard = none) (s x : Operand)
    (ho : o.op = .call { callee := .builtin .append, args := #[s, x], argTypes := #[t, t] })
    (base : Nat) (W : World) (A : Option Addr) (n c : Nat) (xs : List Value) (hs : a.eval s = .slice A n c) (hown : W.ownsRow base e size (.slice A n c) n xs) (cs : Array Value) (hx : a.eval x = .slice (some ⟨W.heap.size, 0, none⟩) 1 1)
    (hcs : cs.size = size) (h1 : ∀ u ∈ cs.toList, u.oneCell' = true) (hb : (n + 1) * bytes ≤ 140737488355328) (hn : n + 1 ≤ maxLen) (hbase : base ≤ W.heap.size)
    (h : ∀ g cap w', Lies W base e size A n c 1 (xs ++ cs.toList) g cap w' → K (a.put o.dst (.slice (some ⟨g, 0, none⟩) (n + 1) cap)) w') :
    if Region.wanted o (yielded ops a.tmps) = true then Oper.wp P o a (W.alloc (.cells cs e)) K Q else X := by
  have hw : Region.wanted o (yielded ops a.tmps) = true := by simp [Region.wanted, hgd]
  rw [if_pos hw]
  exact wp_app E s x ho base W A n c xs hs hown cs hx hcs h1 hb hn hbase h
end

/-- A new list is handed back; what was there is as it was. -/
def OwnList (e size : Nat) (xs : List Value) (n : Nat) (w : World) (en : Ending) (w' : World) : Prop :=
  ∃ A c, en = .returned (.slice A n c) ∧ w'.ownsRow w.heap.size e size (.slice A n c) n xs ∧ Below w.heap.size w w'
end Go.Proofs.Ytdojnocmapkodaa

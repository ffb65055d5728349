/- The contract of laws.put, of items: the list with an element put in at a place, as a new list. -/
import Derived.Test.YtbfeokhkmlcgaaaJoined
import Derived.Test.YtbfeokhkmlcgaaaTheirs
import Derived.Test.YtbfeokhkmlcgaaaSteps
import Derived.Deep.RegionHeld3
namespace Go.Proofs.Ytbfeokhkmlcgaaa
open Go.RowKit
section
variable {P : Program}
theorem step_all {t e size bytes : Nat} (E : Elem P t e size bytes) {ops : Array Oper} {o : Oper} {a : Act} {K : Act → World → Prop} {Q : Exit → Act → World → Prop} {X : Prop} (hgd : o.guard = none) (s x : Operand)
    (ho : o.op = .call { callee := .builtin .append, args := #[s, x], argTypes := #[t, t] })
    (base : Nat) (W : World) (v : Value) (n : Nat) (xs : List Value) (hs : a.eval s = v) (hown : W.ownsRow base e size v n xs) (B : Nat) (A : Option Addr) (m c : Nat) (news : List Value) (hx : a.eval x = .slice A m c) (hr : Rd W B size A m news)
    (h1 : ∀ u ∈ news, u.oneCell' = true) (hb : (n + m) * bytes ≤ 140737488355328) (hn : n + m ≤ maxLen) (hbase : base ≤ W.heap.size)
    (h : ∀ v' w', All W base e size v (n + m) (xs ++ news) v' w' → K (a.put o.dst v') w') :
    if Region.wanted o (yielded ops a.tmps) = true then Oper.wp P o a W K Q else X := by
  have hw : Region.wanted o (yielded ops a.tmps) = true := by simp [Region.wanted, hgd]
  rw [if_pos hw]
  exact wp_all E s x ho base W v n xs hs hown B A m c news hx hr h1 hb hn hbase h
end
theorem cI_take (l : List (Int × Int)) (k : Nat) : (cI l).take (k * 2) = cI (l.take k) := by
  induction l generalizing k with
  | nil => simp [cI]
  | cons x l ih =>
    cases k with
    | zero => simp [cI]
    | succ k => rw [show (k + 1) * 2 = k * 2 + 1 + 1 by omega]; simp only [cI, List.flatMap_cons, List.cons_append, List.nil_append, List.take_succ_cons]; have := ih k; unfold cI at this; rw [this]
theorem cI_drop (l : List (Int × Int)) (k : Nat) : (cI l).drop (k * 2) = cI (l.drop k) := by
  induction l generalizing k with
  | nil => simp [cI]
  | cons x l ih =>
    cases k with
    | zero => simp [cI]
    | succ k => rw [show (k + 1) * 2 = k * 2 + 1 + 1 by omega]; simp only [cI, List.flatMap_cons, List.cons_append, List.nil_append, List.drop_succ_cons]; have := ih k; unfold cI at this; rw [this]

theorem rd_new (W : World) (x : Int × Int) (e : TypeId) : Rd (W.alloc (.cells #[.int .i64 x.1, .int .i64 x.2] e)) (W.alloc (.cells #[.int .i64 x.1, .int .i64 x.2] e)).heap.size 2 (some ⟨W.heap.size, 0, none⟩) 1 (cI [x]) := by
  refine ⟨by simp [cI], fun _ => ⟨W.heap.size, 0, rfl, by simp, fun j u hu => ?_⟩⟩
  match j, hu with
  | 0, hu => simp [cI] at hu; subst hu; simp
  | 1, hu => simp [cI] at hu; subst hu; simp
  | j + 2, hu => simp [cI] at hu
/-- What an append to a row of the call's own leaves, as the walk wants it. -/
theorem all_out {W w' : World} {base : Nat} {v v' : Value} {n m : Nat} {xs ys : List (Int × Int)} (ho : W.ownsRow base 28 2 v n (cI xs)) (hb : base ≤ W.heap.size) (h : All W base 28 2 v m (cI xs ++ cI ys) v' w') :
    ∃ A c, v' = .slice A m c ∧ w'.ownsRow base 28 2 (.slice A m c) m (cI (xs ++ ys)) ∧ Below base W w' := by
  have b1 := h.below hb (fun k hk => (ho.lt k hk).1)
  obtain ⟨o1, _, _⟩ := h
  rw [cI_app] at o1
  obtain ⟨A1, c1, rfl⟩ := own_slice o1
  exact ⟨A1, c1, rfl, o1, b1⟩
theorem all_keep {W w' : World} {base : Nat} {v' : Value} {m : Nat} {ys : List Value} (h : All W base 28 2 (.slice none 0 0) m ys v' w') : Below W.heap.size W w' := (Below.refl _ _).grown h.2.1 (Nat.le_refl _) (fun k hk => by cases hk)

set_option maxHeartbeats 4000000 in
theorem put_items (l : List (Int × Int)) (A : Option Addr) (n c : Nat) (k : Nat) (x : Int × Int) (w : World) (hl : Rd w w.heap.size 2 A n (cI l)) (hk : k ≤ n) (hc : n ≤ c) (hn : (n + 1) * 16 ≤ 140737488355328) :
    Calls Try.prog 16 #[.slice A n c, .int .i64 k, .agg #[.int .i64 x.1, .int .i64 x.2]] w (OwnList 28 2 (cI (l.take k ++ x :: l.drop k)) (n + 1) w) := by
  have hb0 : Below w.heap.size w (w.alloc (.cells #[.int .i64 x.1, .int .i64 x.2] 28)) := (Below.refl _ _).alloc (Nat.le_refl _) _
  have x0 : (w.alloc (.cells #[.int .i64 x.1, .int .i64 x.2] 28)).cell? ⟨w.heap.size, 0, none⟩ = some (.int .i64 x.1) := by simp [go_sem]
  have x1 : (w.alloc (.cells #[.int .i64 x.1, .int .i64 x.2] 28)).cell? ⟨w.heap.size, 1, none⟩ = some (.int .i64 x.2) := by simp [go_sem]
  have hlt : w.heap.size < (w.alloc (.cells #[.int .i64 x.1, .int .i64 x.2] 28)).heap.size := by simp
  have HL := Lib.hid (hl.on hb0)
  have k0 : (0 : Int) ≤ (k : Int) := Int.natCast_nonneg _
  have k1 : (k : Int) ≤ (n : Int) := by omega
  have k2 : (k : Int) ≤ (c : Int) := by omega
  have k3 : (n : Int) ≤ (c : Int) := by omega
  clear hl
  go_enter Try.func16, Try.ntmps16
  go_wp2_with fail
  generalize w.alloc (.cells #[.int .i64 x.1, .int .i64 x.2] 28) = W at *
  have HT : Hid (∀ Wx, Below W.heap.size W Wx → Rd Wx W.heap.size 2 A k (cI (l.take k))) := fun Wx hb => by rw [← cI_take]; exact (HL.out.below hb).take_ hk
  have HN : Hid (k + 1 + (n - k) = n + 1) := by unfold Hid; omega
  have HD : Hid (∀ Wx, Below W.heap.size W Wx → Rd Wx W.heap.size 2 (if c = k then A else Option.map (fun x => x.add (k * 2)) A) (n - k) (cI (l.drop k))) := fun Wx hb => by rw [← cI_drop]; exact (HL.out.below hb).drop_ hk (fun h => if_neg (by omega))
  go_region_held3 (fun w' => w'.cell? ⟨w.heap.size, 0, none⟩ = some (.int .i64 x.1) ∧ w'.cell? ⟨w.heap.size, 1, none⟩ = some (.int .i64 x.2) ∧ Below W.heap.size W w')
    (first
      | (exact ⟨x0, x1, (Below.refl _ _).drew⟩)
      | (go_split_ands; exact ⟨(hbc.cell hlt).trans (by assumption), (hbc.cell hlt).trans (by assumption), Below.trans (by assumption) hbc⟩)
      | (go_split_ands; exact ⟨nx_cell (nx (below_alloc1 _ _)) (by assumption), nx_cell (nx (below_alloc1 _ _)) (by assumption), nx_step (by assumption) (nx (below_alloc1 _ _))⟩))
    (first
      | (refine step_all eI rfl _ _ rfl W.heap.size _ (.slice none 0 0) 0 (cI []) rfl (own_nil _ _ _ _) W.heap.size A k c (cI (l.take k)) rfl (by go_split_ands; exact HT.out _ (by assumption)) (cI_one _) (by omega) (by unfold maxLen; omega) (by go_split_ands; exact Below.size (by assumption)) ?_; intro v1 w1 h1; have kp := Lib.hid (all_keep h1); obtain ⟨A1, c1, rfl, o1, hbc⟩ := all_out (own_nil _ _ _ _) (by go_split_ands; exact Below.size (by assumption)) h1; clear h1; rw [Nat.zero_add] at o1 ⊢; rw [List.nil_append] at o1)
      | (refine step_all eI rfl _ _ rfl W.heap.size _ (.slice A1 k c1) k _ rfl (by first | exact o1 | exact o1.alloc _) _ _ 1 1 (cI [x]) rfl (by first | exact rd_new _ _ _ | exact Rd.on (Rd.drew (rd_new W x 28)) kp.out) (cI_one _) (by omega) (by unfold maxLen; omega) (by go_split_ands; exact Below.size (by assumption)) ?_; intro v2 w2 h2; obtain ⟨A2, c2, rfl, o2, hbc⟩ := all_out (by first | exact o1 | exact o1.alloc _) (by go_split_ands; exact Below.size (by assumption)) h2; clear h2)
      | (refine step_all eI rfl _ _ rfl W.heap.size _ (.slice A2 (k + 1) c2) (k + 1) _ rfl o2 W.heap.size _ (n - k) _ (cI (l.drop k)) rfl (by go_split_ands; exact HD.out _ (by assumption)) (cI_one _) (by omega) (by unfold maxLen; omega) (by go_split_ands; exact Below.size (by assumption)) ?_; intro v3 w3 h3; obtain ⟨A3, c3, rfl, o3, hbc⟩ := all_out o2 (by go_split_ands; exact Below.size (by assumption)) h3; clear h3; rw [HN.out] at o3 ⊢))
  all_goals
    have hfin : Below W.heap.size W w3 := by go_split_ands; assumption
    have o4 := own_base o3 hb0.size
    simp only [List.append_assoc, List.cons_append, List.nil_append] at o4
    clear o3
    go_wp2
    all_goals
      go_ret
      exact ⟨A3, c3, rfl, o4, hb0.trans (hfin.mono hb0.size)⟩
end Go.Proofs.Ytbfeokhkmlcgaaa

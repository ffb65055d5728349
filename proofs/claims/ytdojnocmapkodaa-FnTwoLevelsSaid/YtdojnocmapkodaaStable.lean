/- The contract of Go's sort.stable: the row is sorted, stably. -/
import Derived.Test.YtdojnocmapkodaaSymGen
import Derived.Test.YtdojnocmapkodaaBlocks
namespace Go.Proofs.Ytdojnocmapkodaa
open Go.RowKit

theorem one_step {R : List Int} {d : List (Int × Int)} {k z a b : Nat} (h : ∀ t, t < k → SB R d (t * z) z) (ha : a = k * z) (hb : b = a + z) (hd : b ≤ d.length) :
    ∀ t, t < k + 1 → SB R (d.take a ++ (stab (rJ R) ((d.drop a).take (b - a)) ++ d.drop b)) (t * z) z := fun t ht => by
  subst hb
  have hc := cut3 d a (a + z) (by omega)
  rw [show a + z - a = z by omega] at hc ⊢
  rcases Nat.lt_or_ge t k with h1 | h1
  · have := h t h1
    rw [hc] at this
    have := Nat.mul_le_mul_right z (show t + 1 ≤ k by omega)
    rw [Nat.add_mul, Nat.one_mul] at this
    exact sb_left (by simp; omega) (by assumption)
  · obtain rfl : t = k := by omega
    exact sb_at (by simp; omega) (by rw [stab_len]; simp; omega) (stab_srt _ _)
theorem one_last {R : List Int} {d : List (Int × Int)} {k z a : Nat} (h : ∀ t, t < k → SB R d (t * z) z) (ha : a = k * z) (hd : d.length ≤ a + z) (hal : a ≤ d.length) :
    ∀ t, SB R (d.take a ++ (stab (rJ R) (d.drop a) ++ [])) (t * z) z := fun t => by
  rcases Nat.lt_trichotomy t k with h1 | h1 | h1
  · have := h t h1
    have hc : d = d.take a ++ (d.drop a ++ []) := by rw [List.append_nil, List.take_append_drop]
    rw [hc] at this
    have := Nat.mul_le_mul_right z (show t + 1 ≤ k by omega)
    rw [Nat.add_mul, Nat.one_mul] at this
    exact sb_left (by simp; omega) (by assumption)
  · subst h1
    exact sb_tail (by simp; omega) (by rw [stab_len]; simp; omega) (stab_srt _ _)
  · have := Nat.mul_le_mul_right z (show k + 1 ≤ t by omega)
    rw [Nat.add_mul, Nat.one_mul] at this
    exact sb_beyond (by simp [stab_len]; omega)
theorem two_start {R : List Int} {d : List (Int × Int)} {s z : Nat} (h : ∀ t, SB R d (t * s) s) : Two R d 0 s z := ⟨fun t ht => absurd ht (by omega), fun t _ => h t⟩

set_option maxHeartbeats 16000000 in
set_option maxRecDepth 100000 in
theorem sstable_any (R : List Int) (AR : Option Addr) (m cR : Nat) (w0 W : World) (base g n c : Nat) (d : List (Int × Int)) (hst : St w0 W base g n c d) (hr : Rd w0 base 1 AR m (cZ R)) (hbw : base ≤ w0.heap.size) (hn : n ≤ 1152921504606846976) :
    Calls Try.prog 47 #[.iface 63 (.agg #[.slice (some ⟨g, 0, none⟩) n c, .slice AR m cR]), .int .i64 n] W fun e w' => e = .returned (.tuple #[]) ∧ St w0 w' base g n c (stab (rJ R) d) := by
  have HINS : Hid (∀ W' D a b, St w0 W' base g n c D → a ≤ b → b ≤ n → Calls Try.prog 49 #[.iface 63 (.agg #[.slice (some ⟨g, 0, none⟩) n c, .slice AR m cR]), .int .i64 (a : Nat), .int .i64 (b : Nat)] W' fun e w' => e = .returned (.tuple #[]) ∧ St w0 w' base g n c (D.take a ++ (stab (rJ R) ((D.drop a).take (b - a)) ++ D.drop b))) := fun W' D a b hs h1 h2 => by
    have hl := hs.len
    exact insertionSort_any R AR m cR w0 W' base g n c (D.take a) ((D.drop a).take (b - a)) (D.drop b) a b (hs.cast (cut3 D a b h1)) hr hbw (by simp; omega) (by simp; omega) (by omega)
  have HSYM : Hid (∀ W' D a mm b, St w0 W' base g n c D → a < mm → mm < b → b ≤ n → Srt (rJ R) ((D.drop a).take (mm - a)) → Srt (rJ R) ((D.drop mm).take (b - mm)) → Calls Try.prog 50 #[.iface 63 (.agg #[.slice (some ⟨g, 0, none⟩) n c, .slice AR m cR]), .int .i64 (a : Nat), .int .i64 (mm : Nat), .int .i64 (b : Nat)] W' fun e w' => e = .returned (.tuple #[]) ∧ St w0 w' base g n c (D.take a ++ (stab (rJ R) ((D.drop a).take (b - a)) ++ D.drop b))) := fun W' D a mm b hs h1 h2 h3 hX hY => by
    have hl := hs.len
    have e : (D.drop a).take (b - a) = (D.drop a).take (mm - a) ++ (D.drop mm).take (b - mm) := by
      conv => lhs; rw [show b - a = (mm - a) + (b - mm) by omega, List.take_add, List.drop_drop, show a + (mm - a) = mm by omega]
    rw [e]
    have := symMerge_any R AR m cR w0 base g n c hr hbw (by omega) (b - a) W' (D.take a) ((D.drop a).take (mm - a)) ((D.drop mm).take (b - mm)) (D.drop b) a mm b (by simp; omega) (hs.cast (by rw [← List.append_assoc ((D.drop a).take (mm - a)), ← e]; exact cut3 D a b (by omega))) (by simp; omega) (by simp; omega) (by simp; omega) (by simp; omega) (by simp; omega) hX hY
    exact this
  have hlen := hst.len
  clear hr
  go_enter Try.func47, Try.ntmps47
  go_wp2
  go_loopw [5, 6] (fun va vb wr => ∃ (a : Nat) (D : List (Int × Int)), va = .int .i64 a ∧ vb = .int .i64 ((a : Int) + 20) ∧ a ≤ n ∧ St w0 wr base g n c D ∧ Hid (Same R d D ∧ ∃ k, a = k * 20 ∧ ∀ t, t < k → SB R D (t * 20) 20)) (fun va _ _ => n + 1 - (intOf va).toNat)
  case atStart => exact ⟨0, d, rfl, rfl, Nat.zero_le _, hst, ⟨fun _ => rfl, 0, rfl, fun t ht => absurd ht (by omega)⟩⟩
  case round =>
    obtain ⟨a, D, rfl, rfl, han, hD, I⟩ := hrel
    by_cases hlt : a + 20 ≤ n
    · have hC := HINS.out wr D a (a + 20) hD (by omega) hlt
      have HI : Hid (Same R d (D.take a ++ (stab (rJ R) ((D.drop a).take (a + 20 - a)) ++ D.drop (a + 20))) ∧ ∃ k, a + 20 = k * 20 ∧ ∀ t, t < k → SB R (D.take a ++ (stab (rJ R) ((D.drop a).take (a + 20 - a)) ++ D.drop (a + 20))) (t * 20) 20) := by
        obtain ⟨i1, k, i2, i3⟩ := I.out
        have hl := hD.len
        exact ⟨same_step (by rw [← cut3 D a (a + 20) (by omega)]; exact i1), k + 1, by omega, one_step i3 i2 rfl (by omega)⟩
      have HC := Lib.hid hC
      clear hC I
      rw [show ((a + 20 : Nat) : Int) = (a : Int) + 20 by omega] at HC
      generalize D.take a ++ (stab (rJ R) ((D.drop a).take (a + 20 - a)) ++ D.drop (a + 20)) = D' at *
      go_wp2_with (go_at_call 49; refine HC.out.mono ?_; rintro e w' ⟨rfl, hb1⟩)
      go_round
      case rel => exact ⟨a + 20, D', by go_num, by go_num, hlt, hb1, HI⟩
      case measure => (try simp only [intOf]); omega
    · have hC := HINS.out wr D a n hD han (Nat.le_refl _)
      have HI : Hid (Same R d (D.take a ++ (stab (rJ R) ((D.drop a).take (n - a)) ++ D.drop n)) ∧ ∀ t, SB R (D.take a ++ (stab (rJ R) ((D.drop a).take (n - a)) ++ D.drop n)) (t * 20) 20) := by
        obtain ⟨i1, k, i2, i3⟩ := I.out
        have hl := hD.len
        refine ⟨same_step (by rw [← cut3 D a n han]; exact i1), ?_⟩
        rw [List.drop_eq_nil_of_le (show D.length ≤ n by omega), List.take_of_length_le (show (D.drop a).length ≤ n - a by simp; omega)]
        exact one_last i3 i2 (by omega) (by omega)
      have HC := Lib.hid hC
      clear hC I hD
      generalize D.take a ++ (stab (rJ R) ((D.drop a).take (n - a)) ++ D.drop n) = D' at *
      clear D
      go_wp2_with (first | (go_at_call 49; refine HC.out.mono ?_; rintro e w1 ⟨rfl, hb1⟩) | fail)
      clear HC HINS
      go_loopw [4] (fun vs wr => ∃ (s : Nat) (D : List (Int × Int)), vs = .int .i64 s ∧ 0 < s ∧ s ≤ 2 * n + 20 ∧ St w0 wr base g n c D ∧ Hid (Same R d D ∧ ∀ t, SB R D (t * s) s)) (fun vs _ => n - (intOf vs).toNat)
      case atStart => exact ⟨20, D', rfl, by omega, by omega, hb1, HI⟩
      case round =>
        obtain ⟨s, D, rfl, hs0, hs1, hD, I⟩ := hrel
        by_cases hsn : s < n
        · go_wp2_with fail
          go_loopw [5, 6] (fun va vb wr => ∃ (a : Nat) (D : List (Int × Int)), va = .int .i64 a ∧ vb = .int .i64 ((a : Int) + 2 * (s : Int)) ∧ a ≤ n ∧ St w0 wr base g n c D ∧ Hid (Same R d D ∧ ∃ k, a = k * (s + s) ∧ Two R D k s (s + s))) (fun va _ _ => n + 1 - (intOf va).toNat)
          case atStart => exact ⟨0, D, rfl, by go_num, Nat.zero_le _, hD, ⟨I.out.1, 0, by omega, two_start I.out.2⟩⟩
          case round =>
            clear I hD
            obtain ⟨a, D, rfl, rfl, han, hD, I⟩ := hrel
            by_cases hlt : a + (s + s) ≤ n
            · have HP : Hid (Srt (rJ R) ((D.drop a).take (a + s - a)) ∧ Srt (rJ R) ((D.drop (a + s)).take (a + (s + s) - (a + s))) ∧ Same R d (D.take a ++ (stab (rJ R) ((D.drop a).take (a + (s + s) - a)) ++ D.drop (a + (s + s)))) ∧ ∃ k, a + (s + s) = k * (s + s) ∧ Two R (D.take a ++ (stab (rJ R) ((D.drop a).take (a + (s + s) - a)) ++ D.drop (a + (s + s)))) k s (s + s)) := by
                obtain ⟨i1, k, i2, i3⟩ := I.out
                have hl := hD.len
                obtain ⟨j1, j2, j3⟩ := two_step i3 i2 rfl (by omega)
                refine ⟨by rw [show a + s - a = s by omega]; exact j1, by rw [show a + (s + s) - (a + s) = s by omega]; exact j2, same_step (by rw [← cut3 D a _ (by omega)]; exact i1), k + 1, by rw [Nat.add_mul, Nat.one_mul, ← i2], ?_⟩
                rw [show a + (s + s) - a = s + s by omega]
                exact j3
              have hC := HSYM.out wr D a (a + s) (a + (s + s)) hD (by omega) (by omega) hlt HP.out.1 HP.out.2.1
              have HI : Hid (Same R d (D.take a ++ (stab (rJ R) ((D.drop a).take (a + (s + s) - a)) ++ D.drop (a + (s + s)))) ∧ ∃ k, a + (s + s) = k * (s + s) ∧ Two R (D.take a ++ (stab (rJ R) ((D.drop a).take (a + (s + s) - a)) ++ D.drop (a + (s + s)))) k s (s + s)) := HP.out.2.2
              have HC := Lib.hid hC
              clear hC I HP
              rw [show ((a + (s + s) : Nat) : Int) = (a : Int) + 2 * (s : Int) by omega, show ((a + s : Nat) : Int) = (a : Int) + (s : Int) by omega] at HC
              generalize D.take a ++ (stab (rJ R) ((D.drop a).take (a + (s + s) - a)) ++ D.drop (a + (s + s))) = D' at *
              go_wp2_with (go_at_call 50; refine HC.out.mono ?_; rintro e w' ⟨rfl, hb1⟩)
              go_round
              case rel => exact ⟨a + (s + s), D', by go_num, by go_num, hlt, hb1, HI⟩
              case measure => (try simp only [intOf]); omega
            · by_cases hm : a + s < n
              · have HP : Hid (Srt (rJ R) ((D.drop a).take (a + s - a)) ∧ Srt (rJ R) ((D.drop (a + s)).take (n - (a + s))) ∧ Same R d (D.take a ++ (stab (rJ R) ((D.drop a).take (n - a)) ++ D.drop n)) ∧ ∀ t, SB R (D.take a ++ (stab (rJ R) ((D.drop a).take (n - a)) ++ D.drop n)) (t * (2 * s)) (2 * s)) := by
                  obtain ⟨i1, k, i2, i3⟩ := I.out
                  have hl := hD.len
                  obtain ⟨j1, j2, j3⟩ := two_last i3 i2 rfl (by omega) (by omega)
                  refine ⟨by rw [show a + s - a = s by omega]; exact j1, by rw [List.take_of_length_le (by simp; omega)]; exact j2, same_step (by rw [← cut3 D a _ (by omega)]; exact i1), ?_⟩
                  rw [List.drop_eq_nil_of_le (show D.length ≤ n by omega), List.take_of_length_le (show (D.drop a).length ≤ n - a by simp; omega), Nat.two_mul]
                  exact j3
                have hC := HSYM.out wr D a (a + s) n hD (by omega) hm (Nat.le_refl _) HP.out.1 HP.out.2.1
                have HI : Hid (Same R d (D.take a ++ (stab (rJ R) ((D.drop a).take (n - a)) ++ D.drop n)) ∧ ∀ t, SB R (D.take a ++ (stab (rJ R) ((D.drop a).take (n - a)) ++ D.drop n)) (t * (2 * s)) (2 * s)) := HP.out.2.2
                have HC := Lib.hid hC
                clear hC I HP
                rw [show ((a + s : Nat) : Int) = (a : Int) + (s : Int) by omega] at HC
                generalize D.take a ++ (stab (rJ R) ((D.drop a).take (n - a)) ++ D.drop n) = D' at *
                go_wp2_with (go_at_call 50; refine HC.out.mono ?_; rintro e w' ⟨rfl, hb1⟩)
                go_round
                case rel => exact ⟨2 * s, D', by go_num, by omega, by omega, hb1, HI⟩
                case measure => (try simp only [intOf]); omega
              · have HI : Hid (Same R d D ∧ ∀ t, SB R D (t * (2 * s)) (2 * s)) := by
                  obtain ⟨i1, k, i2, i3⟩ := I.out
                  have hl := hD.len
                  refine ⟨i1, ?_⟩
                  rw [Nat.two_mul]
                  exact two_done i3 i2 rfl hs0 (by omega)
                clear I
                go_wp2_with fail
                go_round
                case rel => exact ⟨2 * s, D, by go_num, by omega, by omega, hD, HI⟩
                case measure => (try simp only [intOf]); omega
        · have hl := hD.len
          have e : D = stab (rJ R) d := same_end I.out.1 (show D.length ≤ s by omega) (by have := I.out.2 0; rw [Nat.zero_mul] at this; exact this)
          subst e
          go_wp2_with fail
          go_end0
          exact ⟨rfl, hD⟩
end Go.Proofs.Ytdojnocmapkodaa

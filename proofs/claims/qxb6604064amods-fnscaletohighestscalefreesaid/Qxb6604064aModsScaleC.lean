/-
  'FnScaleToHighestScaleFree' returns true and writes nothing that was there.
-/
import Derived.Test.Qxb6604064aModsScaleB
namespace Go.Proofs.Qxb6604064aMods.Scale
open Go.RowKit Go.Deep

/-! ### The plain law -/
theorem max_stretch {z : Nat → Int} {n : Nat} {c m m' : Int} (hc : 1 ≤ c) (h : IsMax z n m) (h' : IsMax (fun i => z i * c) n m') : m' = m * c := by
  obtain ⟨⟨j, hj, ej⟩, hle⟩ := h
  obtain ⟨⟨j', hj', ej'⟩, hle'⟩ := h'
  have e1 : z j * c ≤ m' := hle' j hj
  have e2 : z j' * c ≤ m * c := Int.mul_le_mul_of_nonneg_right (hle j' hj') (by omega)
  have ej'' : z j' * c = m' := ej'
  rw [ej] at e1
  omega

theorem scale_free {z : Nat → Int} {n : Nat} {c m m' top : Int} (hc : 1 ≤ c) (hd : InDom z n top) (h : IsMax z n m) (h' : IsMax (fun i => z i * c) n m') (i : Nat) (hi : i < n) :
    scaled (fun i => z i * c) m' i = scaled z m i := by
  have e := max_stretch hc h h'
  have hm0 : 0 ≤ m := by obtain ⟨⟨j, hj, ej⟩, _⟩ := h; have := hd j hj; omega
  unfold scaled
  by_cases hz : m = 0
  · subst hz
    have hz' : m' = 0 := by rw [e]; simp
    have h1 := h.2 i hi
    have h2 := hd i hi
    have h3 : z i = 0 := by omega
    simp [hz', h3]
  · have hz' : m' ≠ 0 := by rw [e]; exact Int.mul_ne_zero hz (by omega)
    rw [if_neg hz, if_neg hz', e]
    show z i * c * 100 / (m * c) = z i * 100 / m
    rw [show z i * c * 100 = z i * 100 * c from by rw [Int.mul_assoc, Int.mul_comm c 100, ← Int.mul_assoc]]
    exact Int.mul_ediv_mul_of_pos_left _ _ (by omega)

theorem stretch_dom {z : Nat → Int} {n : Nat} {c : Int} (hc : 1 ≤ c) (hd : InDom z n (92233720368547758 / c)) : InDom (fun i => z i * c) n 92233720368547758 := by
  intro i hi
  obtain ⟨h0, h1⟩ := hd i hi
  refine ⟨Int.mul_nonneg h0 (by omega), ?_⟩
  have h2 : z i * c ≤ 92233720368547758 / c * c := Int.mul_le_mul_of_nonneg_right h1 (by omega)
  have h3 : 92233720368547758 / c * c ≤ 92233720368547758 := Int.ediv_mul_le _ (by omega)
  exact Int.le_trans h2 h3

theorem plain_dom {z : Nat → Int} {n : Nat} {c : Int} (hd : InDom z n (92233720368547758 / c)) : InDom z n 92233720368547758 := by
  intro i hi
  obtain ⟨h0, h1⟩ := hd i hi
  refine ⟨h0, Int.le_trans h1 ?_⟩
  have : (92233720368547758 : Int) / c ≤ 92233720368547758 := Int.ediv_le_self _ (by omega)
  exact this

/-! ### The walks -/
set_option maxHeartbeats 400000 in
theorem f4_short (a : Option Addr) (n cap : Nat) (c : Int) (w : World) (h : n = 0 ∨ 131072 < n) (hn : n ≤ 9223372036854775807) :
    Calls Trym.prog 4 #[.slice a n cap, .int .i64 c] w fun e w' => e = .returned (.bool true) ∧ Below w.heap.size w w' := by
  rcases h with h | h
  · subst h
    go_enter Trym.func4, Trym.ntmps4
    go_wp2
    go_ret
    exact ⟨rfl, Below.refl _ _⟩
  · have h0 : ((n : Int) == 0) = false := beq_eq_false_iff_ne.2 (by omega)
    by_cases h1 : 1048576 < n
    · go_enter Trym.func4, Trym.ntmps4
      go_wp2
      go_ret
      exact ⟨rfl, Below.refl _ _⟩
    · go_enter Trym.func4, Trym.ntmps4
      go_wp2
      go_ret
      exact ⟨rfl, Below.refl _ _⟩

set_option maxHeartbeats 1000000 in
theorem f4_main (b off n cap : Nat) (z : Nat → Int) (c : Int) (w : World) (hb : b < w.heap.size) (hn0 : 0 < n) (hn : n ≤ 131072) (hcell : ∀ i, i < n → w.cell? ⟨b, off + i, none⟩ = some (.int .i64 (z i))) :
    Calls Trym.prog 4 #[.slice (some ⟨b, off, none⟩) n cap, .int .i64 c] w fun e w' => e = .returned (.bool true) ∧ Below w.heap.size w w' := by
  have h0 : ((n : Int) == 0) = false := beq_eq_false_iff_ne.2 (by omega)
  by_cases hc : c < 1
  · go_enter Trym.func4, Trym.ntmps4
    go_wp2
    go_ret
    exact ⟨rfl, Below.refl _ _⟩
  have hmk := run_make_row' (P := Trym.prog) 24 2 (.int .i64 0) 8 Trym.underlying24 info2 rfl .i64 .i64 n (by omega) (by omega)
  go_enter Trym.func4, Trym.ntmps4
  go_wp2_with (first | (go_at_call 7; go_in) | fail)
  refine (f8_any b off n cap z _ w hn hcell).mono ?_
  rintro e w' ⟨⟨r, rfl, hr⟩, rfl⟩
  cases r with
  | false =>
    go_wp2
    go_ret
    exact ⟨rfl, Below.refl _ _⟩
  | true =>
    have hd := hr rfl
    clear hr
    go_wp2_with fail
    refine (f9_any b off n cap z w' hb hn hcell).mono ?_
    rintro e w1 ⟨rfl, hF1⟩
    have hsz1 := hF1.size
    have HS : Hid (w1.heap.size = w'.heap.size + 1) := hsz1
    clear hsz1
    go_wp2_with fail
    go_loopw [7] (fun i wr => ∃ k : Nat, k ≤ n ∧ i = .int .i64 k ∧ Filling w1 wr n k (fun i => z i * c)) (fun i _ => n - (intOf i).toNat)
    case atStart => exact ⟨0, Nat.zero_le _, rfl, fill_start w1 n _⟩
    case round =>
      obtain ⟨k, hk, rfl, hF⟩ := hrel
      clear hmk
      by_cases hlt : k < n
      · have hck : wr.cell? ⟨b, off + k, none⟩ = some (.int .i64 (z k)) := (hF.below.cell (p := ⟨b, off + k, none⟩) (by have := HS.out; show b < _; omega)).trans ((hF1.below.cell (p := ⟨b, off + k, none⟩) hb).trans (hcell k hlt))
        have hst : wr.cell? ⟨w1.heap.size, k, none⟩ = some (.int .i64 0) := by have := hF.row.cell hlt; simpa using this
        have hfr : wr.frozen? ⟨w1.heap.size, k, none⟩ = false := hF.row.frozen k
        have hy := stretch_dom (by omega) hd k hlt
        obtain ⟨hy0, hy1⟩ : 0 ≤ z k * c ∧ z k * c ≤ 92233720368547758 := hy
        go_wp2
        go_roundw
        case rel => exact ⟨k + 1, by omega, by go_num, fill_step hF⟩
        case measure => simp [intOf]; omega
      · have e : k = n := by omega
        subst e
        go_wp2_with fail
        have hrow1 : wr.rowIs w'.heap.size 2 k (sc z) := (fill_done hF1).of_block (hF.below.block _ (by have := HS.out; omega))
        have hrow2 : wr.rowIs w1.heap.size 2 k (sc (fun i => z i * c)) := fill_done hF
        have hB0 : Below w'.heap.size w' wr := hF1.below.trans (hF.below.mono (by have := HS.out; omega))
        clear hF hF1
        refine (f10_any w'.heap.size k k z wr hn0 hn hrow1 (plain_dom hd)).mono ?_
        rintro e w2 ⟨rfl, ⟨m, hm, hq1, hbut1⟩⟩
        go_wp2_with fail
        refine (f10_any w1.heap.size k k (fun i => z i * c) w2 hn0 hn (hbut1.row hrow2 (by have := HS.out; omega)) (stretch_dom (by omega) hd)).mono ?_
        rintro e w3 ⟨rfl, ⟨m', hm', hq2, hbut2⟩⟩
        go_wp2_with fail
        have hq2' : w3.rowIs w1.heap.size 2 k (sc (scaled z m)) := hq2.congr (fun i hi => by simp only [sc]; rw [scale_free (by omega) hd hm hm' i hi])
        refine (f11_any w'.heap.size w1.heap.size k k k (scaled z m) w3 hn (hbut2.row hq1 (by have := HS.out; omega)) hq2').mono ?_
        rintro e w4 ⟨rfl, hal⟩
        have hB : Below w'.heap.size w' w4 := by
          exact ((hB0.trans (hbut1.below (Nat.le_refl _))).trans (hbut2.below (by have := HS.out; omega))).trans (hal.mono (by have := hbut2.size; have := hbut1.size; have := hB0.size; omega))
        go_wp2
        go_ret
        exact ⟨rfl, hB⟩
#print axioms f4_main
end Go.Proofs.Qxb6604064aMods.Scale

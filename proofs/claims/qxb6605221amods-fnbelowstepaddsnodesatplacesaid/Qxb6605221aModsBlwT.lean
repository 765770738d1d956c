/-
  '(numberIndex).below', at a place that is one of the values'.
-/
import Derived.Test.Qxb6605221aModsBlwS
import Derived.RegionTactic
import Derived.BigRegion
namespace Go.Proofs.Qxb6605221aMods.Blw
open Go.RowKit Go.Deep Cut
set_option linter.unusedVariables false

/-- The box of the receiver. -/
def bx (a0 a1 a2 : Option Addr) (n v m : Nat) : Nat → Value
  | 0 => .slice a0 n n
  | 1 => .slice a1 v v
  | _ => .slice a2 m m

/-- Word i is done: its bits are the nodes below the place. -/
def Done (nd : Nat → Nat) (x : Nat → Nat → Nat) (m place i o : Nat) : Prop := ∀ k, k < 64 → o.testBit k = ((nd i).testBit k && decide (S (rk x i k) m < place))

structure BOut (w wr : World) (a0 a1 a2 : Option Addr) (n v m k place : Nat) (nd : Nat → Nat) (x : Nat → Nat → Nat) (og : Nat → Nat) : Prop where
  keep : Keep (fun _ => False) w wr
  size : wr.heap.size = w.heap.size + 2
  box : wr.rowIs w.heap.size 43 3 (bx a0 a1 a2 n v m)
  out : wr.rowIs (w.heap.size + 1) 31 n (fun i => .int .u64 (og i))
  bd : ∀ i, og i < 18446744073709551616
  done : ∀ i, i < k → Done nd x m place i (og i)

theorem bout_set {w wr : World} {a0 a1 a2 : Option Addr} {n v m k place : Nat} {nd : Nat → Nat} {x : Nat → Nat → Nat} {og : Nat → Nat} (h : BOut w wr a0 a1 a2 n v m k place nd x og) (o : Nat) (ho : o < 18446744073709551616) :
    BOut w (wr.setCell ⟨w.heap.size + 1, k, none⟩ (.int .u64 o)) a0 a1 a2 n v m k place nd x (fun i => if i = k then o else og i) :=
  ⟨⟨h.keep.os, h.keep.tape, h.keep.output, by rw [nblk_setCell]; exact h.keep.size, fun i hi hn => by rw [blk_setCell_other _ _ _ _ (by show i ≠ w.heap.size + 1; omega)]; exact h.keep.block i hi hn⟩, by rw [nblk_setCell]; exact h.size,
    h.box.setOther (by show w.heap.size ≠ w.heap.size + 1; omega) _, (h.out.set k _).congr (fun i _ => by
      by_cases e : i = k
      · rw [if_pos e, if_pos e]
      · rw [if_neg e, if_neg e]), fun i => by
      by_cases e : i = k
      · rw [if_pos e]; exact ho
      · rw [if_neg e]; exact h.bd i, fun i hi => by rw [if_neg (by omega)]; exact h.done i hi⟩

theorem bout_drewN {w wr : World} {a0 a1 a2 : Option Addr} {n v m k place : Nat} {nd : Nat → Nat} {x : Nat → Nat → Nat} {og : Nat → Nat} (h : BOut w wr a0 a1 a2 n v m k place nd x og) (q : Nat) : BOut w (wr.drewN q) a0 a1 a2 n v m k place nd x og :=
  ⟨h.keep.drewN q, h.size, h.box, h.out, h.bd, h.done⟩

theorem bout_drew {w wr : World} {a0 a1 a2 : Option Addr} {n v m k place : Nat} {nd : Nat → Nat} {x : Nat → Nat → Nat} {og : Nat → Nat} (h : BOut w wr a0 a1 a2 n v m k place nd x og) : BOut w wr.drew a0 a1 a2 n v m k place nd x og :=
  ⟨⟨h.keep.os, h.keep.tape, h.keep.output, h.keep.size, h.keep.block⟩, h.size, h.box, h.out, h.bd, h.done⟩

/-- The bits that x has not. -/
def co (x : Nat) : Nat := 18446744073709551615 - x
theorem and_w (a b : Nat) (ha : a < 18446744073709551616) (hb : b < 18446744073709551616) : bits BinOp.and IntKind.u64 (a : Int) (b : Int) = ((a &&& b : Nat) : Int) := u64_and_nat a b ha hb
theorem or_w (a b : Nat) (ha : a < 18446744073709551616) (hb : b < 18446744073709551616) : bits BinOp.or IntKind.u64 (a : Int) (b : Int) = ((a ||| b : Nat) : Int) := u64_or_nat a b ha hb
theorem andNot_w (a b : Nat) (ha : a < 18446744073709551616) (hb : b < 18446744073709551616) : bits BinOp.andNot IntKind.u64 (a : Int) (b : Int) = ((a &&& co b : Nat) : Int) := u64_andNot_nat a b ha hb
theorem and_lt (a b : Nat) (ha : a < 18446744073709551616) : a &&& b < 18446744073709551616 := Nat.lt_of_le_of_lt Nat.and_le_left ha
theorem or_lt (a b : Nat) (ha : a < 18446744073709551616) (hb : b < 18446744073709551616) : a ||| b < 18446744073709551616 := by
  have := Nat.or_lt_two_pow (n := 64) (x := a) (y := b) (by omega) (by omega)
  omega
/-- 'place >> b & 1 == 1', b whatever. -/
theorem bit_place (p j : Nat) (hp : p < 9223372036854775808) : (bits BinOp.and IntKind.i64 ((p : Int) / 2 ^ (min j 64)) 1 == 1) = p.testBit j := by
  have h1 : ((p : Int) / 2 ^ (min j 64)) = ((p / 2 ^ (min j 64) : Nat) : Int) := by rw [← two_pow_cast, ← Int.natCast_ediv]
  have h2 : p / 2 ^ (min j 64) < 9223372036854775808 := Nat.lt_of_le_of_lt (Nat.div_le_self _ _) hp
  rw [h1, bit_i64 _ h2]
  by_cases e : j ≤ 64
  · rw [show min j 64 = j from by omega, Nat.testBit_eq_decide_div_mod_eq]
  · rw [show min j 64 = 64 from by omega]
    have h3 : p / 2 ^ 64 = 0 := Nat.div_eq_of_lt (by omega)
    have h4 : p.testBit j = false := Nat.testBit_lt_two_pow (Nat.lt_of_lt_of_le (show p < 2 ^ 64 by omega) (Nat.pow_le_pow_right (by decide) (by omega)))
    rw [h3, h4]; rfl

structure Post16 (w : World) (n m place : Nat) (nd : Nat → Nat) (x : Nat → Nat → Nat) (e : Ending) (w' : World) : Prop where
  out : ∃ (O : Nat) (og : Nat → Nat), e = .returned (.slice (some ⟨O, 0, none⟩) n n) ∧ Keep (fun _ => False) w w' ∧ w'.rowIs O 31 n (fun i => .int .u64 (og i)) ∧ (∀ i, og i < 18446744073709551616) ∧ ∀ i, i < n → Done nd x m place i (og i)

set_option maxHeartbeats 2000000 in
theorem f16_lo (a0 a1 a2 : Option Addr) (n v m place G g0 : Nat) (nd : Nat → Nat) (V : Nat → Option Addr) (L B : Nat → Nat) (x : Nat → Nat → Nat) (w : World) (hn : n ≤ 131072) (hv : v ≤ 131072) (hm : m ≤ 65536) (hp : place < v) (hpm : place < 2 ^ m)
    (hN : 0 < n → a0 = some ⟨g0, 0, none⟩ ∧ w.rowIs g0 31 n (fun i => .int .u64 (nd i))) (hnd : ∀ i, nd i < 18446744073709551616) (hW : Words w 41 a2 m n G V L B x) :
    Calls Trym.prog 16 #[.agg #[.slice a0 n n, .slice a1 v v, .slice a2 m m], .int .i64 place] w fun e w' => Post16 w n m place nd x e w' := by
  have hmk := run_make_row' (P := Trym.prog) 41 31 (.int .u64 0) 8 Trym.underlying41 info31 rfl .i64 .i64 n (by omega) (by omega)
  go_enter Trym.func16, Trym.ntmps16
  go_wp2
  clear hmk
  go_loopw [25] (fun i wr => ∃ (k : Nat) (og : Nat → Nat), k ≤ n ∧ i = .int .i64 k ∧ BOut w wr a0 a1 a2 n v m k place nd x og ∧ ∀ i, k ≤ i → og i = 0) (fun i _ => n - (intOf i).toNat)
  case atStart =>
    refine ⟨0, fun _ => 0, Nat.zero_le _, rfl, ⟨((Keep.refl _ w).alloc _).alloc _, by simp, (World.rowIs_alloc w #[.slice a0 n n, .slice a1 v v, .slice a2 m m] 43 (bx a0 a1 a2 n v m) (fun i hi => ?_)).alloc _, ?_, fun _ => by omega, fun i hi => absurd hi (Nat.not_lt_zero _)⟩, fun _ _ => rfl⟩
    · match i, hi with
      | 0, _ => rfl
      | 1, _ => rfl
      | 2, _ => rfl
    · have h := World.rowIs_made (w.alloc (.cells #[.slice a0 n n, .slice a1 v v, .slice a2 m m] 43)) (.int .u64 0) n 31
      rw [nblk_alloc] at h
      exact h
  case round =>
    obtain ⟨k, og, hk, rfl, hB, hz⟩ := hrel
    obtain ⟨wo, rfl⟩ : ∃ wo : World, wo = wr := ⟨_, rfl⟩
    by_cases hlt : k < n
    · obtain ⟨he0, hNr⟩ := hN (by omega)
      have HE0 : Hid (a0 = some ⟨g0, 0, none⟩) := he0
      clear he0
      have hb0 : wo.cell? ⟨w.heap.size, 0, none⟩ = some (.slice (some ⟨g0, 0, none⟩) n n) := by rw [hB.box.cell (i := 0) (by omega), show bx a0 a1 a2 n v m 0 = .slice a0 n n from rfl, HE0.out]
      have hb2 : wo.cell? ⟨w.heap.size, 2, none⟩ = some (.slice a2 m m) := hB.box.cell (i := 2) (by omega)
      have hb1 : wo.cell? ⟨g0, k, none⟩ = some (.int .u64 (nd k)) := (hB.keep.row hNr (fun x => x)).cell hlt
      go_wp2
      clear hb0 hb2 hb1
      go_loopw [7, 8] (fun sv bv wr => ∃ (j sm : Nat) (og' : Nat → Nat), j ≤ m ∧ bv = .int .i64 ((j : Int) - 1) ∧ sv = .int .u64 sm ∧ sm < 18446744073709551616 ∧ BOut w wr a0 a1 a2 n v m k place nd x og' ∧ (∀ i, k < i → og' i = 0) ∧ Hid (Inv (nd k) (rk x k) m place j (og' k) sm)) (fun _ b _ => (intOf b + 1).toNat)
      case atStart => exact ⟨m, nd k, og, Nat.le_refl _, rfl, rfl, hnd k, hB, fun i hi => hz i (by omega), by rw [hz k (Nat.le_refl _)]; exact inv_start _ _ _ _ hpm⟩
      case round =>
        obtain ⟨j, sm, og', hj, rfl, rfl, hsm, hB', hz', HI⟩ := hrel
        by_cases hj0 : j = 0
        · subst hj0
          go_wp2
          go_roundw
          case rel =>
            refine ⟨k + 1, og', by omega, by go_num, ⟨hB'.keep, hB'.size, hB'.box, hB'.out, hB'.bd, fun i hi => ?_⟩, fun i hi => hz' i (by omega)⟩
            by_cases e : i = k
            · subst e; exact fun q hq => inv_end HI.out q hq
            · exact hB'.done i (by omega)
          case measure => simp [intOf]; omega
        · obtain ⟨j', rfl⟩ : ∃ j', j = j' + 1 := ⟨j - 1, by omega⟩
          rw [show (((j' + 1 : Nat) : Int) - 1) = (j' : Int) from by omega]
          have hjm : j' < m := by omega
          obtain ⟨ht1, ht2⟩ := hW.top (by omega)
          obtain ⟨hr1, hr2, hr3⟩ := hW.rows j' hjm
          obtain ⟨hv1, hv2⟩ := hr3 (by omega)
          have hc0 : wr.cell? ⟨w.heap.size, 2, none⟩ = some (.slice (some ⟨G, 0, none⟩) m m) := by rw [hB'.box.cell (i := 2) (by omega), show bx a0 a1 a2 n v m 2 = .slice a2 m m from rfl, ht1]
          have hc1 : wr.cell? ⟨G, j', none⟩ = some (.slice (some ⟨B j', 0, none⟩) (L j') (L j')) := by rw [(hB'.keep.row ht2 (fun x => x)).cell hjm, hv1]
          have hc2 : wr.cell? ⟨B j', k, none⟩ = some (.int .u64 (x j' k)) := (hB'.keep.row hv2 (fun x => x)).cell (by omega)
          have hc3 : wr.cell? ⟨w.heap.size + 1, k, none⟩ = some (.int .u64 (og' k)) := hB'.out.cell hlt
          have hf3 : wr.frozen? ⟨w.heap.size + 1, k, none⟩ = false := hB'.out.frozen k
          have hi1 : (k : Int) < (L j' : Int) := by omega
          have hlG := ht2.lt
          have hlB := hv2.lt
          clear ht1 ht2 hr3 hv1 hv2
          have hbit := bit_place place j' (by omega)
          have hxb := hW.bd j' k
          have hn1 := andNot_w sm (x j' k) hsm hxb
          have HN : Hid (sm &&& co (x j' k) < 18446744073709551616) := and_lt _ _ hsm
          cases hc : place.testBit j' with
          | true =>
            rw [hc] at hbit
            have hn2 := and_w sm (x j' k) hsm hxb
            have hn3 := or_w (og' k) (sm &&& co (x j' k)) (hB'.bd k) HN.out
            have HR : Hid (BOut w (wr.setCell ⟨w.heap.size + 1, k, none⟩ (.int .u64 ((og' k ||| (sm &&& co (x j' k)) : Nat)))) a0 a1 a2 n v m k place nd x (fun i => if i = k then og' k ||| (sm &&& co (x j' k)) else og' i)) := bout_set hB' _ (or_lt _ _ (hB'.bd k) HN.out)
            clear hxb
            go_wp2
            go_region
            all_goals go_wp2
            go_roundw
            case rel => exact ⟨j', _, _, by omega, rfl, rfl, and_lt _ _ hsm, bout_drew HR.out, fun i hi => by rw [if_neg (by omega)]; exact hz' i hi, by
              rw [if_pos rfl]; exact inv_one HI.out hjm hc (fun q hq => rfl) (hW.bd j' k)⟩
            case measure => simp [intOf]
          | false =>
            rw [hc] at hbit
            clear hxb
            go_wp2
            go_roundw
            case rel => exact ⟨j', _, og', by omega, rfl, rfl, HN.out, hB', hz', inv_zero HI.out hjm hc (fun q hq => rfl) (hW.bd j' k)⟩
            case measure => simp [intOf]
    · have e : k = n := by omega
      subst e
      go_wp2
      go_ret
      exact ⟨w.heap.size + 1, og, rfl, hB.keep, hB.out, hB.bd, hB.done⟩
#print axioms f16_lo
end Go.Proofs.Qxb6605221aMods.Blw

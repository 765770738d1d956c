/-
  'FnVersionCompareZeroIffSameAfterTrailingZeros' returns true and writes nothing that was there.
-/
import Derived.Test.Qxb6001230aModsVerB
namespace Go.Proofs.Qxb6001230aMods.Ver
open Go.RowKit Go.Deep
set_option linter.unusedVariables false

/-! ### The plain law -/
theorem trim_get {z : Nat → Int} {n k : Nat} (h : Trim z n k) (i : Nat) (hi : k ≤ i) : get z n i = 0 := by
  by_cases e : i < n
  · rw [get_in e]; exact h.2.1 i hi e
  · exact get_out e
theorem trim_last {z : Nat → Int} {n k : Nat} (h : Trim z n k) (hk : 0 < k) : get z n (k - 1) ≠ 0 := by
  rw [get_in (by have := h.1; omega)]; exact h.2.2 hk

theorem same_iff {zv zw : Nat → Int} {n m nt mt : Nat} (hv : Trim zv n nt) (hw : Trim zw m mt) : AllEq zv n zw m ↔ (nt = mt ∧ ∀ i, i < nt → zv i = zw i) := by
  constructor
  · intro h
    have e : nt = mt := by
      rcases Nat.lt_trichotomy nt mt with x | x | x
      · have h1 := trim_last hw (by omega)
        rw [← h, trim_get hv _ (by omega)] at h1
        exact absurd rfl h1
      · exact x
      · have h1 := trim_last hv (by omega)
        rw [h, trim_get hw _ (by omega)] at h1
        exact absurd rfl h1
    refine ⟨e, fun i hi => ?_⟩
    have h1 := h i
    rw [get_in (by have := hv.1; omega), get_in (by have := hw.1; omega)] at h1
    exact h1
  · rintro ⟨e, h⟩ i
    by_cases hi : i < nt
    · rw [get_in (by have := hv.1; omega), get_in (by have := hw.1; omega)]; exact h i hi
    · rw [trim_get hv i (by omega), trim_get hw i (by omega)]

set_option maxHeartbeats 400000 in
theorem f7_early (a0 a1 : Option Addr) (n m c0 c1 : Nat) (w : World) (hn : n ≤ 9223372036854775807) (hm : m ≤ 9223372036854775807) (h : 65536 < n ∨ 65536 < m) :
    Calls Trym.prog 7 #[.slice a0 n c0, .slice a1 m c1] w fun e w' => e = .returned (.bool true) ∧ Below w.heap.size w w' := by
  by_cases h1 : 65536 < n
  · go_enter Trym.func7, Trym.ntmps7
    go_wp2_with fail
    refine (f19_any a0 a1 n m c0 c1 w hn hm).mono ?_
    rintro e w' ⟨⟨r, rfl⟩, rfl⟩
    cases r <;> (go_wp2; go_ret; exact ⟨rfl, Below.refl _ _⟩)
  · have h2 : 65536 < m := by omega
    clear h
    go_enter Trym.func7, Trym.ntmps7
    go_wp2_with fail
    refine (f19_any a0 a1 n m c0 c1 w hn hm).mono ?_
    rintro e w' ⟨⟨r, rfl⟩, rfl⟩
    cases r <;> (go_wp2; go_ret; exact ⟨rfl, Below.refl _ _⟩)

set_option maxHeartbeats 4000000 in
theorem f7_core (a0 a1 : Option Addr) (n m c0 c1 : Nat) (zv zw : Nat → Int) (w : World) (hn : n ≤ 65536) (hm : m ≤ 65536) (h0 : Src w a0 n zv) (h1 : Src w a1 m zw) (hc0 : a0 = none → c0 = 0) (hc1 : a1 = none → c1 = 0) :
    Calls Trym.prog 7 #[.slice a0 n c0, .slice a1 m c1] w fun e w' => e = .returned (.bool true) ∧ Below w.heap.size w w' := by
  go_enter Trym.func7, Trym.ntmps7
  go_wp2_with fail
  refine (f19_any a0 a1 n m c0 c1 w (by omega) (by omega)).mono ?_
  rintro e w' ⟨⟨r, rfl⟩, rfl⟩
  cases r with
  | false =>
    go_wp2
    go_ret
    exact ⟨rfl, Below.refl _ _⟩
  | true =>
  have q1 : decide ((65536 : Int) < (n : Int)) = false := by simp; omega
  have q2 : decide ((65536 : Int) < (m : Int)) = false := by simp; omega
  go_wp2_with fail
  clear q1 q2
  refine (f17_any a0 n c0 zv w' hn h0 hc0).mono ?_
  rintro e w1 ⟨hB1, hv⟩
  have h1' : Src w1 a1 m zw := ⟨h1.nil, fun x => by
    obtain ⟨b, off, e, hb, hc⟩ := h1.pos x
    exact ⟨b, off, e, by have := hB1.size; omega, fun i hi => by rw [hB1.cell (p := ⟨b, off + i, none⟩) hb]; exact hc i hi⟩⟩
  clear h0 h1
  rcases hv with ⟨rfl, rfl⟩ | ⟨gv, rfl, hgv, hv⟩
  · go_wp2_with fail
    refine (f17_any a1 m c1 zw w1 hm h1' hc1).mono ?_
    rintro e w2 ⟨hB2, hw⟩
    have HB0 : Hid (Below w'.heap.size w' w2) := hB1.trans (hB2.mono hB1.size)
    rcases hw with ⟨rfl, rfl⟩ | ⟨gw, rfl, hgw, hw2⟩
    · clear hB1 hB2 h1'
      go_wp2_with fail
      refine (f20_nil zv w2).mono ?_
      rintro e w3 ⟨⟨nt, rfl, ht1⟩, hq⟩
      obtain rfl := hq.symm
      go_wp2_with fail
      refine (f20_nil zw w2).mono ?_
      rintro e w3 ⟨⟨mt, rfl, ht2⟩, hq⟩
      obtain rfl := hq.symm
      have hb1 := ht1.1
      have hb2 := ht2.1
      have HIFF : Hid (AllEq zv 0 zw 0 ↔ (nt = mt ∧ ∀ i, i < nt → zv i = zw i)) := same_iff ht1 ht2
      clear ht1 ht2
      go_wp2
      go_loopw [7, 8] (fun sv kv wr => ∃ (k : Nat) (sm : Bool), k ≤ nt ∧ kv = .int .i64 k ∧ sv = .bool sm ∧ Below w2.heap.size w2 wr ∧ Hid (sm = true ↔ (nt = mt ∧ ∀ i, i < k → zv i = zw i))) (fun _ kv _ => nt - (intOf kv).toNat)
      case atStart => exact ⟨0, _, Nat.zero_le _, rfl, rfl, Below.refl _ _, by
        show _ ↔ _
        rw [beq_iff_eq]
        exact ⟨fun x => ⟨by omega, fun i hi => absurd hi (Nat.not_lt_zero _)⟩, fun x => by have := x.1; omega⟩⟩
      case round =>
        obtain ⟨k, sm, hk, rfl, rfl, hB, HS⟩ := hrel
        cases sm with
        | false =>
          have HAll : Hid (¬ AllEq zv 0 zw 0) := fun x => by
            have h1 := HIFF.out.1 x
            exact absurd (HS.out.2 ⟨h1.1, fun i hi => h1.2 i (by omega)⟩) (by decide)
          go_wp2_with fail
          refine (f18_nn zv zw wr).mono ?_
          rintro e w3 ⟨⟨c, rfl, hc⟩, hq⟩
          obtain rfl := hq.symm
          have hcb : (c == 0) = false := beq_eq_false_iff_ne.2 (fun x => HAll.out (hc.1 x))
          clear hc
          go_wp2
          go_ret
          exact ⟨rfl, HB0.out.trans (hB.mono (by have := HB0.out.size; omega))⟩

        | true =>
          by_cases hlt : k < nt
          · have hnm : nt = mt := (HS.out.1 rfl).1
            exact absurd hlt (by omega)

          · have HAll : Hid (AllEq zv 0 zw 0) := HIFF.out.2 ⟨(HS.out.1 rfl).1, fun i hi => (HS.out.1 rfl).2 i (by omega)⟩
            go_wp2_with fail
            refine (f18_nn zv zw wr).mono ?_
            rintro e w3 ⟨⟨c, rfl, hc⟩, hq⟩
            obtain rfl := hq.symm
            have hcb : (c == 0) = true := beq_iff_eq.2 (hc.2 HAll.out)
            clear hc
            go_wp2
            go_ret
            exact ⟨rfl, HB0.out.trans (hB.mono (by have := HB0.out.size; omega))⟩


    · clear hB1 hB2 h1' hgw
      go_wp2_with fail
      refine (f20_nil zv w2).mono ?_
      rintro e w3 ⟨⟨nt, rfl, ht1⟩, hq⟩
      obtain rfl := hq.symm
      go_wp2_with fail
      refine (f20_row gw m zw w2 hm hw2).mono ?_
      rintro e w3 ⟨⟨mt, rfl, ht2⟩, hq⟩
      obtain rfl := hq.symm
      have hb1 := ht1.1
      have hb2 := ht2.1
      have HIFF : Hid (AllEq zv 0 zw m ↔ (nt = mt ∧ ∀ i, i < nt → zv i = zw i)) := same_iff ht1 ht2
      clear ht1 ht2
      go_wp2
      go_loopw [7, 8] (fun sv kv wr => ∃ (k : Nat) (sm : Bool), k ≤ nt ∧ kv = .int .i64 k ∧ sv = .bool sm ∧ Below w2.heap.size w2 wr ∧ Hid (sm = true ↔ (nt = mt ∧ ∀ i, i < k → zv i = zw i))) (fun _ kv _ => nt - (intOf kv).toNat)
      case atStart => exact ⟨0, _, Nat.zero_le _, rfl, rfl, Below.refl _ _, by
        show _ ↔ _
        rw [beq_iff_eq]
        exact ⟨fun x => ⟨by omega, fun i hi => absurd hi (Nat.not_lt_zero _)⟩, fun x => by have := x.1; omega⟩⟩
      case round =>
        obtain ⟨k, sm, hk, rfl, rfl, hB, HS⟩ := hrel
        cases sm with
        | false =>
          have HAll : Hid (¬ AllEq zv 0 zw m) := fun x => by
            have h1 := HIFF.out.1 x
            exact absurd (HS.out.2 ⟨h1.1, fun i hi => h1.2 i (by omega)⟩) (by decide)
          go_wp2_with fail
          refine (f18_ns zv zw gw m hm wr (hw2.of_block (hB.block gw hw2.lt))).mono ?_
          rintro e w3 ⟨⟨c, rfl, hc⟩, hq⟩
          obtain rfl := hq.symm
          have hcb : (c == 0) = false := beq_eq_false_iff_ne.2 (fun x => HAll.out (hc.1 x))
          clear hc
          go_wp2
          go_ret
          exact ⟨rfl, HB0.out.trans (hB.mono (by have := HB0.out.size; omega))⟩

        | true =>
          by_cases hlt : k < nt
          · have hnm : nt = mt := (HS.out.1 rfl).1
            exact absurd hlt (by omega)

          · have HAll : Hid (AllEq zv 0 zw m) := HIFF.out.2 ⟨(HS.out.1 rfl).1, fun i hi => (HS.out.1 rfl).2 i (by omega)⟩
            go_wp2_with fail
            refine (f18_ns zv zw gw m hm wr (hw2.of_block (hB.block gw hw2.lt))).mono ?_
            rintro e w3 ⟨⟨c, rfl, hc⟩, hq⟩
            obtain rfl := hq.symm
            have hcb : (c == 0) = true := beq_iff_eq.2 (hc.2 HAll.out)
            clear hc
            go_wp2
            go_ret
            exact ⟨rfl, HB0.out.trans (hB.mono (by have := HB0.out.size; omega))⟩


  · go_wp2_with fail
    refine (f17_any a1 m c1 zw w1 hm h1' hc1).mono ?_
    rintro e w2 ⟨hB2, hw⟩
    have HB0 : Hid (Below w'.heap.size w' w2) := hB1.trans (hB2.mono hB1.size)
    have hv2 : w2.rowIs gv 3 n (rw3 zv) := hv.of_block (hB2.block gv hv.lt)
    clear hv hgv
    rcases hw with ⟨rfl, rfl⟩ | ⟨gw, rfl, hgw, hw2⟩
    · clear hB1 hB2 h1'
      go_wp2_with fail
      refine (f20_row gv n zv w2 hn hv2).mono ?_
      rintro e w3 ⟨⟨nt, rfl, ht1⟩, hq⟩
      obtain rfl := hq.symm
      go_wp2_with fail
      refine (f20_nil zw w2).mono ?_
      rintro e w3 ⟨⟨mt, rfl, ht2⟩, hq⟩
      obtain rfl := hq.symm
      have hb1 := ht1.1
      have hb2 := ht2.1
      have HIFF : Hid (AllEq zv n zw 0 ↔ (nt = mt ∧ ∀ i, i < nt → zv i = zw i)) := same_iff ht1 ht2
      clear ht1 ht2
      go_wp2
      go_loopw [7, 8] (fun sv kv wr => ∃ (k : Nat) (sm : Bool), k ≤ nt ∧ kv = .int .i64 k ∧ sv = .bool sm ∧ Below w2.heap.size w2 wr ∧ Hid (sm = true ↔ (nt = mt ∧ ∀ i, i < k → zv i = zw i))) (fun _ kv _ => nt - (intOf kv).toNat)
      case atStart => exact ⟨0, _, Nat.zero_le _, rfl, rfl, Below.refl _ _, by
        show _ ↔ _
        rw [beq_iff_eq]
        exact ⟨fun x => ⟨by omega, fun i hi => absurd hi (Nat.not_lt_zero _)⟩, fun x => by have := x.1; omega⟩⟩
      case round =>
        obtain ⟨k, sm, hk, rfl, rfl, hB, HS⟩ := hrel
        cases sm with
        | false =>
          have HAll : Hid (¬ AllEq zv n zw 0) := fun x => by
            have h1 := HIFF.out.1 x
            exact absurd (HS.out.2 ⟨h1.1, fun i hi => h1.2 i (by omega)⟩) (by decide)
          go_wp2_with fail
          refine (f18_sn zv zw gv n hn wr (hv2.of_block (hB.block gv hv2.lt))).mono ?_
          rintro e w3 ⟨⟨c, rfl, hc⟩, hq⟩
          obtain rfl := hq.symm
          have hcb : (c == 0) = false := beq_eq_false_iff_ne.2 (fun x => HAll.out (hc.1 x))
          clear hc
          go_wp2
          go_ret
          exact ⟨rfl, HB0.out.trans (hB.mono (by have := HB0.out.size; omega))⟩

        | true =>
          by_cases hlt : k < nt
          · have hnm : nt = mt := (HS.out.1 rfl).1
            exact absurd hlt (by omega)

          · have HAll : Hid (AllEq zv n zw 0) := HIFF.out.2 ⟨(HS.out.1 rfl).1, fun i hi => (HS.out.1 rfl).2 i (by omega)⟩
            go_wp2_with fail
            refine (f18_sn zv zw gv n hn wr (hv2.of_block (hB.block gv hv2.lt))).mono ?_
            rintro e w3 ⟨⟨c, rfl, hc⟩, hq⟩
            obtain rfl := hq.symm
            have hcb : (c == 0) = true := beq_iff_eq.2 (hc.2 HAll.out)
            clear hc
            go_wp2
            go_ret
            exact ⟨rfl, HB0.out.trans (hB.mono (by have := HB0.out.size; omega))⟩


    · clear hB1 hB2 h1' hgw
      go_wp2_with fail
      refine (f20_row gv n zv w2 hn hv2).mono ?_
      rintro e w3 ⟨⟨nt, rfl, ht1⟩, hq⟩
      obtain rfl := hq.symm
      go_wp2_with fail
      refine (f20_row gw m zw w2 hm hw2).mono ?_
      rintro e w3 ⟨⟨mt, rfl, ht2⟩, hq⟩
      obtain rfl := hq.symm
      have hb1 := ht1.1
      have hb2 := ht2.1
      have HIFF : Hid (AllEq zv n zw m ↔ (nt = mt ∧ ∀ i, i < nt → zv i = zw i)) := same_iff ht1 ht2
      clear ht1 ht2
      go_wp2
      go_loopw [7, 8] (fun sv kv wr => ∃ (k : Nat) (sm : Bool), k ≤ nt ∧ kv = .int .i64 k ∧ sv = .bool sm ∧ Below w2.heap.size w2 wr ∧ Hid (sm = true ↔ (nt = mt ∧ ∀ i, i < k → zv i = zw i))) (fun _ kv _ => nt - (intOf kv).toNat)
      case atStart => exact ⟨0, _, Nat.zero_le _, rfl, rfl, Below.refl _ _, by
        show _ ↔ _
        rw [beq_iff_eq]
        exact ⟨fun x => ⟨by omega, fun i hi => absurd hi (Nat.not_lt_zero _)⟩, fun x => by have := x.1; omega⟩⟩
      case round =>
        obtain ⟨k, sm, hk, rfl, rfl, hB, HS⟩ := hrel
        cases sm with
        | false =>
          have HAll : Hid (¬ AllEq zv n zw m) := fun x => by
            have h1 := HIFF.out.1 x
            exact absurd (HS.out.2 ⟨h1.1, fun i hi => h1.2 i (by omega)⟩) (by decide)
          go_wp2_with fail
          refine (f18_ss zv zw gv n hn gw m hm wr (hv2.of_block (hB.block gv hv2.lt)) (hw2.of_block (hB.block gw hw2.lt))).mono ?_
          rintro e w3 ⟨⟨c, rfl, hc⟩, hq⟩
          obtain rfl := hq.symm
          have hcb : (c == 0) = false := beq_eq_false_iff_ne.2 (fun x => HAll.out (hc.1 x))
          clear hc
          go_wp2
          go_ret
          exact ⟨rfl, HB0.out.trans (hB.mono (by have := HB0.out.size; omega))⟩

        | true =>
          by_cases hlt : k < nt
          · have hnm : nt = mt := (HS.out.1 rfl).1
            have hcv : wr.cell? ⟨gv, k, none⟩ = some (.int .i64 (zv k)) := (hv2.of_block (hB.block gv hv2.lt)).cell (by omega)
            have hcw : wr.cell? ⟨gw, k, none⟩ = some (.int .i64 (zw k)) := (hw2.of_block (hB.block gw hw2.lt)).cell (by omega)
            have hi1 : (k : Int) < (n : Int) := by omega
            have hi2 : (k : Int) < (m : Int) := by omega
            have HPAIR : Hid (nt = mt ∧ ∀ i, i < k → zv i = zw i) := HS.out.1 rfl
            clear hnm HS
            by_cases he : zv k = zw k
            · have hne : (zv k != zw k) = false := by simp [he]
              have HEQ : Hid (zv k = zw k) := he
              clear he
              go_wp2
              go_quiet (fail)
              go_wp2
              go_roundw
              case rel => exact ⟨k + 1, true, by omega, by go_num, rfl, below_drewN hB _, ⟨fun _ => ⟨HPAIR.out.1, fun i hi => by
                by_cases e : i = k
                · subst e; exact HEQ.out
                · exact HPAIR.out.2 i (by omega)⟩, fun _ => rfl⟩⟩
              case measure => simp [intOf]; omega
            · have hne : (zv k != zw k) = true := by simp [he]
              have HNE : Hid (¬ zv k = zw k) := he
              clear he
              go_wp2
              go_quiet (fail)
              go_wp2
              go_roundw
              case rel => exact ⟨k + 1, false, by omega, by go_num, rfl, below_drewN hB _, ⟨fun x => (by cases x), fun x => absurd (x.2 k (by omega)) HNE.out⟩⟩
              case measure => simp [intOf]; omega

          · have HAll : Hid (AllEq zv n zw m) := HIFF.out.2 ⟨(HS.out.1 rfl).1, fun i hi => (HS.out.1 rfl).2 i (by omega)⟩
            go_wp2_with fail
            refine (f18_ss zv zw gv n hn gw m hm wr (hv2.of_block (hB.block gv hv2.lt)) (hw2.of_block (hB.block gw hw2.lt))).mono ?_
            rintro e w3 ⟨⟨c, rfl, hc⟩, hq⟩
            obtain rfl := hq.symm
            have hcb : (c == 0) = true := beq_iff_eq.2 (hc.2 HAll.out)
            clear hc
            go_wp2
            go_ret
            exact ⟨rfl, HB0.out.trans (hB.mono (by have := HB0.out.size; omega))⟩


#print axioms f7_core
end Go.Proofs.Qxb6001230aMods.Ver

/-
  'FnBelowStepAddsNodesAtPlace' at a place that is no value's, and at great sizes: it returns true and writes nothing that was there.
-/
import Derived.Test.Qxb6605221aModsBlwIn
namespace Go.Proofs.Qxb6605221aMods.Blw
open Go.RowKit Go.Deep Cut
set_option linter.unusedVariables false

set_option maxHeartbeats 4000000 in
set_option maxRecDepth 100000 in
theorem f4_neg (a0 a1 : Option Addr) (n v c0 c1 c2 bb off m : Nat) (place : Int) (nd : Nat → Nat) (zv : Nat → Int) (A : Nat → Option Addr) (L C : Nat → Nat) (x : Nat → Nat → Nat) (w : World) (hI : In w a0 a1 (some ⟨bb, off, none⟩) n v m nd zv A L C x)
    (hm : m ≤ 65536) (hn : n ≤ 131072) (hv : v ≤ 131072) (hp : place < 0) (hc : ∀ i, i < m → w.cell? ⟨bb, off + i, none⟩ = some (.slice (A i) (L i) (C i))) :
    Calls Trym.prog 4 #[.slice a0 n c0, .slice a1 v c1, .slice (some ⟨bb, off, none⟩) m c2, .int .i64 place] w fun e w' => e = .returned (.bool true) ∧ Below w.heap.size w w' := by
  have hL0 := hI.bL
  go_enter Trym.func4, Trym.ntmps4
  go_wp2_with fail
  refine (f12_any a0 a1 (some ⟨bb, off, none⟩) n v m c0 c1 c2 0 place A L C x w hI.bn hI.bv hI.bm hI.srcR hI.bL).mono ?_
  rintro e w' ⟨⟨r, rfl⟩, rfl⟩
  cases r with
  | false =>
    go_wp2
    go_ret
    exact ⟨rfl, Below.refl _ _⟩
  | true =>
  have h20 : decide ((131072 : Int) < (n : Int)) = false := by simp; omega
  have h21 : decide ((131072 : Int) < (v : Int)) = false := by simp; omega
  go_wp2
  clear h20 h21
  go_loop [9, 10] (fun q i => ∃ k qq : Nat, k ≤ m ∧ i = .int .i64 k ∧ q = .int .i64 qq ∧ qq ≤ 4000000 ∧ Hid (∀ b, b < k → L b ≤ 131072)) (fun _ i => m - (intOf i).toNat)
  case atStart => exact ⟨0, 8 * n + 8 * v + 24 * m, Nat.zero_le _, rfl, by go_num, by omega, fun b hb => absurd hb (Nat.not_lt_zero _)⟩
  case round =>
    obtain ⟨k, qq, hk, rfl, rfl, hq, HL⟩ := hrel
    by_cases hlt : k < m
    · have hck := hc k hlt
      have hlk := hL0 k hlt
      by_cases g1 : 131072 < L k
      · go_wp2
        go_ret
        exact ⟨rfl, Below.refl _ _⟩
      by_cases g2 : 1048576 < qq + 8 * L k
      · go_wp2
        go_ret
        exact ⟨rfl, Below.refl _ _⟩
      · go_wp2
        go_round
        case rel => exact ⟨k + 1, qq + 8 * L k, by omega, by go_num, by go_num, by omega, fun b hb => by
          by_cases e : b = k
          · subst e; omega
          · exact HL.out b (by omega)⟩
        case measure => simp [intOf]; omega
    · have e : k = m := by omega
      subst e
      by_cases g1 : 1048576 < qq
      · go_wp2
        go_ret
        exact ⟨rfl, Below.refl _ _⟩
      go_wp2
      go_ret
      exact ⟨rfl, Below.refl _ _⟩

set_option maxHeartbeats 4000000 in
set_option maxRecDepth 100000 in
theorem f4_neg0 (a0 a1 : Option Addr) (a2 : Option Addr) (n v c0 c1 c2 m : Nat) (place : Int) (nd : Nat → Nat) (zv : Nat → Int) (A : Nat → Option Addr) (L C : Nat → Nat) (x : Nat → Nat → Nat) (w : World) (hI : In w a0 a1 a2 n v m nd zv A L C x)
    (hm : m ≤ 65536) (hn : n ≤ 131072) (hv : v ≤ 131072) (hp : place < 0) (HM0 : Hid (m = 0)) :
    Calls Trym.prog 4 #[.slice a0 n c0, .slice a1 v c1, .slice a2 m c2, .int .i64 place] w fun e w' => e = .returned (.bool true) ∧ Below w.heap.size w w' := by
  go_enter Trym.func4, Trym.ntmps4
  go_wp2_with fail
  refine (f12_any a0 a1 a2 n v m c0 c1 c2 0 place A L C x w hI.bn hI.bv hI.bm hI.srcR hI.bL).mono ?_
  rintro e w' ⟨⟨r, rfl⟩, rfl⟩
  cases r with
  | false =>
    go_wp2
    go_ret
    exact ⟨rfl, Below.refl _ _⟩
  | true =>
  have h20 : decide ((131072 : Int) < (n : Int)) = false := by simp; omega
  have h21 : decide ((131072 : Int) < (v : Int)) = false := by simp; omega
  go_wp2
  clear h20 h21
  go_loop [9, 10] (fun q i => ∃ k qq : Nat, k ≤ m ∧ i = .int .i64 k ∧ q = .int .i64 qq ∧ qq ≤ 4000000 ∧ Hid (∀ b, b < k → L b ≤ 131072)) (fun _ i => m - (intOf i).toNat)
  case atStart => exact ⟨0, 8 * n + 8 * v + 24 * m, Nat.zero_le _, rfl, by go_num, by omega, fun b hb => absurd hb (Nat.not_lt_zero _)⟩
  case round =>
    obtain ⟨k, qq, hk, rfl, rfl, hq, HL⟩ := hrel
    by_cases hlt : k < m
    · exact absurd hlt (by have := HM0.out; omega)
    · have e : k = m := by omega
      subst e
      by_cases g1 : 1048576 < qq
      · go_wp2
        go_ret
        exact ⟨rfl, Below.refl _ _⟩
      go_wp2
      go_ret
      exact ⟨rfl, Below.refl _ _⟩

set_option maxHeartbeats 4000000 in
set_option maxRecDepth 100000 in
theorem f4_far (a0 a1 : Option Addr) (n v c0 c1 c2 bb off m place : Nat) (nd : Nat → Nat) (zv : Nat → Int) (A : Nat → Option Addr) (L C : Nat → Nat) (x : Nat → Nat → Nat) (w : World) (hI : In w a0 a1 (some ⟨bb, off, none⟩) n v m nd zv A L C x)
    (hm : m ≤ 65536) (hn : n ≤ 131072) (hv : v ≤ 131072) (hp : v ≤ place) (hp2 : place ≤ 9223372036854775807) (hc : ∀ i, i < m → w.cell? ⟨bb, off + i, none⟩ = some (.slice (A i) (L i) (C i))) :
    Calls Trym.prog 4 #[.slice a0 n c0, .slice a1 v c1, .slice (some ⟨bb, off, none⟩) m c2, .int .i64 place] w fun e w' => e = .returned (.bool true) ∧ Below w.heap.size w w' := by
  have hL0 := hI.bL
  go_enter Trym.func4, Trym.ntmps4
  go_wp2_with fail
  refine (f12_any a0 a1 (some ⟨bb, off, none⟩) n v m c0 c1 c2 0 place A L C x w hI.bn hI.bv hI.bm hI.srcR hI.bL).mono ?_
  rintro e w' ⟨⟨r, rfl⟩, rfl⟩
  cases r with
  | false =>
    go_wp2
    go_ret
    exact ⟨rfl, Below.refl _ _⟩
  | true =>
  have h20 : decide ((131072 : Int) < (n : Int)) = false := by simp; omega
  have h21 : decide ((131072 : Int) < (v : Int)) = false := by simp; omega
  go_wp2
  clear h20 h21
  go_loop [9, 10] (fun q i => ∃ k qq : Nat, k ≤ m ∧ i = .int .i64 k ∧ q = .int .i64 qq ∧ qq ≤ 4000000 ∧ Hid (∀ b, b < k → L b ≤ 131072)) (fun _ i => m - (intOf i).toNat)
  case atStart => exact ⟨0, 8 * n + 8 * v + 24 * m, Nat.zero_le _, rfl, by go_num, by omega, fun b hb => absurd hb (Nat.not_lt_zero _)⟩
  case round =>
    obtain ⟨k, qq, hk, rfl, rfl, hq, HL⟩ := hrel
    by_cases hlt : k < m
    · have hck := hc k hlt
      have hlk := hL0 k hlt
      by_cases g1 : 131072 < L k
      · go_wp2
        go_ret
        exact ⟨rfl, Below.refl _ _⟩
      by_cases g2 : 1048576 < qq + 8 * L k
      · go_wp2
        go_ret
        exact ⟨rfl, Below.refl _ _⟩
      · go_wp2
        go_round
        case rel => exact ⟨k + 1, qq + 8 * L k, by omega, by go_num, by go_num, by omega, fun b hb => by
          by_cases e : b = k
          · subst e; omega
          · exact HL.out b (by omega)⟩
        case measure => simp [intOf]; omega
    · have e : k = m := by omega
      subst e
      by_cases g1 : 1048576 < qq
      · go_wp2
        go_ret
        exact ⟨rfl, Below.refl _ _⟩
      go_wp2
      go_ret
      exact ⟨rfl, Below.refl _ _⟩

set_option maxHeartbeats 4000000 in
set_option maxRecDepth 100000 in
theorem f4_far0 (a0 a1 : Option Addr) (a2 : Option Addr) (n v c0 c1 c2 m place : Nat) (nd : Nat → Nat) (zv : Nat → Int) (A : Nat → Option Addr) (L C : Nat → Nat) (x : Nat → Nat → Nat) (w : World) (hI : In w a0 a1 a2 n v m nd zv A L C x)
    (hm : m ≤ 65536) (hn : n ≤ 131072) (hv : v ≤ 131072) (hp : v ≤ place) (hp2 : place ≤ 9223372036854775807) (HM0 : Hid (m = 0)) :
    Calls Trym.prog 4 #[.slice a0 n c0, .slice a1 v c1, .slice a2 m c2, .int .i64 place] w fun e w' => e = .returned (.bool true) ∧ Below w.heap.size w w' := by
  go_enter Trym.func4, Trym.ntmps4
  go_wp2_with fail
  refine (f12_any a0 a1 a2 n v m c0 c1 c2 0 place A L C x w hI.bn hI.bv hI.bm hI.srcR hI.bL).mono ?_
  rintro e w' ⟨⟨r, rfl⟩, rfl⟩
  cases r with
  | false =>
    go_wp2
    go_ret
    exact ⟨rfl, Below.refl _ _⟩
  | true =>
  have h20 : decide ((131072 : Int) < (n : Int)) = false := by simp; omega
  have h21 : decide ((131072 : Int) < (v : Int)) = false := by simp; omega
  go_wp2
  clear h20 h21
  go_loop [9, 10] (fun q i => ∃ k qq : Nat, k ≤ m ∧ i = .int .i64 k ∧ q = .int .i64 qq ∧ qq ≤ 4000000 ∧ Hid (∀ b, b < k → L b ≤ 131072)) (fun _ i => m - (intOf i).toNat)
  case atStart => exact ⟨0, 8 * n + 8 * v + 24 * m, Nat.zero_le _, rfl, by go_num, by omega, fun b hb => absurd hb (Nat.not_lt_zero _)⟩
  case round =>
    obtain ⟨k, qq, hk, rfl, rfl, hq, HL⟩ := hrel
    by_cases hlt : k < m
    · exact absurd hlt (by have := HM0.out; omega)
    · have e : k = m := by omega
      subst e
      by_cases g1 : 1048576 < qq
      · go_wp2
        go_ret
        exact ⟨rfl, Below.refl _ _⟩
      go_wp2
      go_ret
      exact ⟨rfl, Below.refl _ _⟩

set_option maxHeartbeats 1000000 in
set_option maxRecDepth 100000 in
theorem f4_early (a0 a1 a2 : Option Addr) (n v m c0 c1 c2 : Nat) (place : Int) (nd : Nat → Nat) (zv : Nat → Int) (A : Nat → Option Addr) (L C : Nat → Nat) (x : Nat → Nat → Nat) (w : World) (hI : In w a0 a1 a2 n v m nd zv A L C x)
    (h : 131072 < n ∨ 131072 < v ∨ 65536 < m) :
    Calls Trym.prog 4 #[.slice a0 n c0, .slice a1 v c1, .slice a2 m c2, .int .i64 place] w fun e w' => e = .returned (.bool true) ∧ Below w.heap.size w w' := by
  have hbn := hI.bn
  have hbv := hI.bv
  have hbm := hI.bm
  by_cases h1 : 131072 < n
  · go_enter Trym.func4, Trym.ntmps4
    go_wp2_with fail
    refine (f12_any a0 a1 a2 n v m c0 c1 c2 0 place A L C x w hI.bn hI.bv hI.bm hI.srcR hI.bL).mono ?_
    rintro e w' ⟨⟨r, rfl⟩, rfl⟩
    cases r <;> (go_wp2; go_ret; exact ⟨rfl, Below.refl _ _⟩)
  by_cases h2 : 131072 < v
  · go_enter Trym.func4, Trym.ntmps4
    go_wp2_with fail
    refine (f12_any a0 a1 a2 n v m c0 c1 c2 0 place A L C x w hI.bn hI.bv hI.bm hI.srcR hI.bL).mono ?_
    rintro e w' ⟨⟨r, rfl⟩, rfl⟩
    cases r <;> (go_wp2; go_ret; exact ⟨rfl, Below.refl _ _⟩)
  · have h3 : 65536 < m := by omega
    clear h
    go_enter Trym.func4, Trym.ntmps4
    go_wp2_with fail
    refine (f12_any a0 a1 a2 n v m c0 c1 c2 0 place A L C x w hI.bn hI.bv hI.bm hI.srcR hI.bL).mono ?_
    rintro e w' ⟨⟨r, rfl⟩, rfl⟩
    cases r <;> (go_wp2; go_ret; exact ⟨rfl, Below.refl _ _⟩)
#print axioms f4_early
end Go.Proofs.Qxb6605221aMods.Blw

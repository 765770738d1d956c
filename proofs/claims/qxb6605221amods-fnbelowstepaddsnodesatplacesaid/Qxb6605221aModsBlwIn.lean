/-
  From what the row's reader says of the arguments to what the walks ask.
-/
import Derived.Test.Qxb6605221aModsBlwX
import Derived.Test.Qxb6605221aModsBlwY
import Derived.ProofKit
import Derived.Deep.Matrix
namespace Go.Proofs.Qxb6605221aMods.Blw
open Go.ChangeShapes Go.WideShapes Go.ChangeAt Go.RowKit Go.Deep Cut
set_option linter.unusedVariables false

theorem wf_u64 {n : Int} (h : (Lit.int .u64 n).wf = true) : 0 ≤ n ∧ n < 18446744073709551616 := by
  simp [Lit.wf, IntKind.min, IntKind.max, IntKind.signed, IntKind.bits] at h
  omega

def u64At (zs : List Int) (i : Nat) : Nat := (zs.getD i 0).toNat % 18446744073709551616
theorem u64At_lt (zs : List Int) (i : Nat) : u64At zs i < 18446744073709551616 := Nat.mod_lt _ (by omega)
theorem u64At_eq {zs : List Int} (h : ∀ n ∈ zs, (Lit.int .u64 n).wf = true) (i : Nat) (hi : i < zs.length) : ((u64At zs i : Nat) : Int) = zs.getD i 0 := by
  have hm : zs.getD i 0 ∈ zs := by
    rw [List.getD_eq_getElem?_getD, List.getElem?_eq_getElem hi]
    exact List.getElem_mem hi
  have := wf_u64 (h _ hm)
  unfold u64At
  omega

/-- A slice of integers that came in: nil; or a row of 'cap' numbers. -/
def IsRow (k : IntKind) (w : World) (a : Option Addr) (len cap : Nat) (zs : List Int) : Prop :=
  (a = none ∧ len = 0 ∧ cap = 0 ∧ zs = []) ∨
  ∃ x, a = some x ∧ len ≤ cap ∧ cap ≤ maxLen ∧ zs.length = cap ∧ (∀ i, i < zs.length → w.cell? (x.add i) = some (.int k (zs.getD i 0))) ∧ ∀ n ∈ zs, (Lit.int k n).wf = true

theorem src_cells {w : World} {x : Addr} {n : Nat} {f : Nat → Value} (hn : 0 < n) (hc : ∀ i, i < n → w.cell? (x.add i) = some (f i)) : ∃ b off, x = ⟨b, off, none⟩ ∧ b < w.heap.size ∧ ∀ i, i < n → w.cell? ⟨b, off + i, none⟩ = some (f i) := by
  obtain ⟨b, off, spot⟩ := x
  have h0 := hc 0 hn
  have hspot : spot = none := by simpa [Addr.add] using World.cell?_spot h0
  subst hspot
  exact ⟨b, off, rfl, by simpa [Addr.add] using World.block_lt_of_cell? _ _ h0, fun i hi => by rw [← add_at]; exact hc i hi⟩

theorem isRow_src {k : IntKind} {w : World} {a : Option Addr} {len cap : Nat} {zs : List Int} (h : IsRow k w a len cap zs) : Src w a len (fun i => .int k (zs.getD i 0)) ∧ (a = none → len = 0) ∧ len ≤ 9223372036854775807 := by
  rcases h with ⟨rfl, rfl, rfl, rfl⟩ | ⟨x, rfl, h1, h2, h3, h4, h5⟩
  · exact ⟨⟨by omega⟩, fun _ => rfl, by omega⟩
  · unfold maxLen at h2
    refine ⟨⟨fun hn => ?_⟩, (fun h => by cases h), by omega⟩
    obtain ⟨b, off, rfl, hb, hc⟩ := src_cells (f := fun i => .int k (zs.getD i 0)) hn (fun i hi => h4 i (by omega))
    exact ⟨b, off, rfl, hb, hc⟩

theorem isRow_u64 {w : World} {a : Option Addr} {len cap : Nat} {zs : List Int} (h : IsRow .u64 w a len cap zs) : Src w a len (fun i => .int .u64 (u64At zs i)) := by
  have hs := (isRow_src h).1
  refine ⟨fun hn => ?_⟩
  obtain ⟨b, off, e, hb, hc⟩ := hs.pos hn
  refine ⟨b, off, e, hb, fun i hi => ?_⟩
  rw [hc i hi]
  rcases h with ⟨_, rfl, _, _⟩ | ⟨x, _, h1, h2, h3, h4, h5⟩
  · omega
  · rw [u64At_eq h5 i (by omega)]

/-- A slice of slices of words that came in. -/
def IsRows (w : World) (a : Option Addr) (len : Nat) (A : Nat → Option Addr) (L C : Nat → Nat) (Z : Nat → List Int) : Prop :=
  (a = none → len = 0) ∧ len ≤ maxLen ∧ ∀ x, a = some x → ∀ r, r < len → w.cell? (x.add r) = some (.slice (A r) (L r) (C r)) ∧ L r ≤ C r ∧ C r ≤ maxLen ∧ (Z r).length = C r ∧ (∀ n ∈ Z r, (Lit.int .u64 n).wf = true) ∧ (A r = none → C r = 0) ∧
    ∀ a', A r = some a' → ∀ c, c < C r → w.cell? (a'.add c) = some (.int .u64 ((Z r).getD c 0))

theorem in_of {w : World} {a0 a1 a2 : Option Addr} {n v m c0 c1 : Nat} {z0 z1 : List Int} {A : Nat → Option Addr} {L C : Nat → Nat} {Z : Nat → List Int} (h0 : IsRow .u64 w a0 n c0 z0) (h1 : IsRow .i64 w a1 v c1 z1) (h2 : IsRows w a2 m A L C Z) :
    In w a0 a1 a2 n v m (u64At z0) (fun i => z1.getD i 0) A L C (fun b i => u64At (Z b) i) := by
  obtain ⟨q1, q2, q3⟩ := h2
  unfold maxLen at q2
  refine ⟨isRow_u64 h0, (isRow_src h0).2.1, (isRow_src h1).1, (isRow_src h1).2.1, ⟨fun hm => ?_, fun b hb => ?_⟩, q1, (isRow_src h0).2.2, (isRow_src h1).2.2, q2, fun b hb => ?_, u64At_lt z0, fun b i => u64At_lt _ _⟩
  · cases a2 with
    | none => have := q1 rfl; omega
    | some x =>
      obtain ⟨b, off, rfl, hb, hc⟩ := src_cells (f := fun i => .slice (A i) (L i) (C i)) hm (fun i hi => (q3 x rfl i hi).1)
      exact ⟨b, off, rfl, hb, hc⟩
  · cases a2 with
    | none => have := q1 rfl; omega
    | some x =>
      obtain ⟨e1, e2, e3, e4, e5, e6, e7⟩ := q3 x rfl b hb
      refine ⟨⟨fun hl => ?_⟩, fun e => by have := e6 e; omega⟩
      cases hA : A b with
      | none => have := e6 hA; omega
      | some y =>
        obtain ⟨bb, off, rfl, hbb, hc⟩ := src_cells (f := fun i => .int .u64 ((Z b).getD i 0)) hl (fun i hi => e7 y hA i (by omega))
        exact ⟨bb, off, rfl, hbb, fun i hi => by rw [hc i hi, u64At_eq e5 i (by omega)]⟩
  · cases a2 with
    | none => have := q1 rfl; omega
    | some x =>
      obtain ⟨e1, e2, e3, _⟩ := q3 x rfl b hb
      unfold maxLen at e3
      omega

theorem f3_any (a0 a1 a2 : Option Addr) (n v m c0 c1 c2 : Nat) (place : Int) (nd : Nat → Nat) (zv : Nat → Int) (A : Nat → Option Addr) (L C : Nat → Nat) (x : Nat → Nat → Nat) (w : World) (hI : In w a0 a1 a2 n v m nd zv A L C x) (hp : place ≤ 9223372036854775807) :
    Calls Trym.prog 3 #[.slice a0 n c0, .slice a1 v c1, .slice a2 m c2, .int .i64 place] w fun e w' => e = .returned (.bool true) ∧ Below w.heap.size w w' := by
  by_cases hb : 131072 < n ∨ 131072 < v ∨ 65536 < m
  · exact f3_early a0 a1 a2 n v m c0 c1 c2 place nd zv A L C x w hI hb
  · by_cases hm : m = 0
    · by_cases hneg : place < 0
      · exact f3_neg0 a0 a1 a2 n v c0 c1 c2 m place nd zv A L C x w hI (by omega) (by omega) (by omega) hneg hm
      · obtain ⟨p, rfl⟩ := Int.eq_ofNat_of_zero_le (show 0 ≤ place by omega)
        exact f3_core0 a0 a1 a2 n v c0 c1 c2 m p nd zv A L C x w hI (by omega) (by omega) (by omega) (by omega) hm
    · obtain ⟨bb, off, rfl, hbb, hc⟩ := hI.srcR.pos (by omega)
      by_cases hneg : place < 0
      · exact f3_neg a0 a1 n v c0 c1 c2 bb off m place nd zv A L C x w hI (by omega) (by omega) (by omega) hneg hc
      · obtain ⟨p, rfl⟩ := Int.eq_ofNat_of_zero_le (show 0 ≤ place by omega)
        exact f3_core a0 a1 n v c0 c1 c2 bb off m p nd zv A L C x w hI (by omega) (by omega) (by omega) (by omega) hc
#print axioms f3_any
end Go.Proofs.Qxb6605221aMods.Blw

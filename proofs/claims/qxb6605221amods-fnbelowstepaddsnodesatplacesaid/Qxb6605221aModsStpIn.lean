/-
  'FnBelowStepAddsNodesAtPlace' at every input.
-/
import Derived.Test.Qxb6605221aModsStpB
import Derived.Test.Qxb6605221aModsStpC
namespace Go.Proofs.Qxb6605221aMods.Blw
open Go.RowKit Go.Deep Cut

theorem f4_any (a0 a1 a2 : Option Addr) (n v m c0 c1 c2 : Nat) (place : Int) (nd : Nat → Nat) (zv : Nat → Int) (A : Nat → Option Addr) (L C : Nat → Nat) (x : Nat → Nat → Nat) (w : World) (hI : In w a0 a1 a2 n v m nd zv A L C x) (hp : place ≤ 9223372036854775807) :
    Calls Trym.prog 4 #[.slice a0 n c0, .slice a1 v c1, .slice a2 m c2, .int .i64 place] w fun e w' => e = .returned (.bool true) ∧ Below w.heap.size w w' := by
  by_cases hb : 131072 < n ∨ 131072 < v ∨ 65536 < m
  · exact f4_early a0 a1 a2 n v m c0 c1 c2 place nd zv A L C x w hI hb
  · by_cases hm : m = 0
    · by_cases hneg : place < 0
      · exact f4_neg0 a0 a1 a2 n v c0 c1 c2 m place nd zv A L C x w hI (by omega) (by omega) (by omega) hneg hm
      · obtain ⟨p, rfl⟩ := Int.eq_ofNat_of_zero_le (show 0 ≤ place by omega)
        by_cases hfar : v ≤ p
        · exact f4_far0 a0 a1 a2 n v c0 c1 c2 m p nd zv A L C x w hI (by omega) (by omega) (by omega) hfar (by omega) hm
        · exact f4_core0 a0 a1 a2 n v c0 c1 c2 m p nd zv A L C x w hI (by omega) (by omega) (by omega) (by omega) hm
    · obtain ⟨bb, off, rfl, hbb, hc⟩ := hI.srcR.pos (by omega)
      by_cases hneg : place < 0
      · exact f4_neg a0 a1 n v c0 c1 c2 bb off m place nd zv A L C x w hI (by omega) (by omega) (by omega) hneg hc
      · obtain ⟨p, rfl⟩ := Int.eq_ofNat_of_zero_le (show 0 ≤ place by omega)
        by_cases hfar : v ≤ p
        · exact f4_far a0 a1 n v c0 c1 c2 bb off m p nd zv A L C x w hI (by omega) (by omega) (by omega) hfar (by omega) hc
        · exact f4_core a0 a1 n v c0 c1 c2 bb off m p nd zv A L C x w hI (by omega) (by omega) (by omega) (by omega) hc
#print axioms f4_any
end Go.Proofs.Qxb6605221aMods.Blw

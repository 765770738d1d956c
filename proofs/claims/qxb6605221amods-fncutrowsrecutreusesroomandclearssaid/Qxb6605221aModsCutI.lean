/-
  'ZZCutRows', first and second; the early ways of the law; what holds when the law looks back.
-/
import Derived.Test.Qxb6605221aModsCutH
namespace Go.Proofs.Qxb6605221aMods.Cut
open Go.RowKit Go.Deep
set_option linter.unusedVariables false

set_option maxHeartbeats 400000 in
theorem f13_first (n wd s : Nat) (w : World) (hn : n ≤ 65536) (hw : wd ≤ 65536) (hs1 : s ≤ 65536) (hs : (n : Int) * (wd : Int) = (s : Int)) :
    Calls Trym.prog 13 #[.slice none 0 0, .slice none 0 0, .int .i64 n, .int .i64 wd] w fun e w' => FirstOut w n wd s e w' := by
  go_enter Trym.func13, Trym.ntmps13
  go_wp2_with (go_at_call 17; refine (f17_first n wd s _ hn hw hs1 hs).mono ?_; rintro e w' ⟨ra, aa, A, R, ad, rfl, hG⟩)
  go_ret2
  exact ⟨ra, aa, A, R, ad, rfl, hG⟩

set_option maxHeartbeats 400000 in
theorem f13_second {B n1 w1 s1 n2 w2 s2 : Nat} {ra aa : Option Addr} {A R : Nat} {ad : Nat → Option Addr} {F : Nat → Value} {w : World} (h : Held w B n1 w1 s1 ra aa A R ad F) (hw1 : w1 ≤ 65536)
    (hn : n2 ≤ 65536) (hw : w2 ≤ 65536) (hs1 : s2 ≤ 65536) (hs : (n2 : Int) * (w2 : Int) = (s2 : Int)) :
    Calls Trym.prog 13 #[.slice ra n1 n1, .slice aa s1 s1, .int .i64 n2, .int .i64 w2] w fun e w' => SecOut w B n1 w1 s1 n2 w2 s2 A R ad F e w' := by
  go_enter Trym.func13, Trym.ntmps13
  go_wp2_with (go_at_call 17; refine (f17_second h hw1 hn hw hs1 hs).mono ?_; rintro e w' ⟨ra2, aa2, A2, R2, rc2, ac2, ad2, rfl, hG⟩)
  go_ret2
  exact ⟨ra2, aa2, A2, R2, rc2, ac2, ad2, rfl, hG⟩

/-- What holds when the law looks back at the first cut. -/
structure Fin (w : World) (n1 w1 s1 n2 w2 s2 : Nat) (ra aa : Option Addr) (A R A2 : Nat) (ad ad2 : Nat → Option Addr) : Prop where
  all : 0 < s1 → aa = some ⟨A, 0, none⟩ ∧ w.rowIs A 2 s1 (fun k => if k < s2 ∧ s2 ≤ s1 then mk 5 k else mk 3 k)
  rows : 0 < n1 → ra = some ⟨R, 0, none⟩ ∧ w.rowIs R 23 n1 (fun i => if i < n2 ∧ n2 ≤ n1 then .slice (ad2 i) w2 w2 else .slice (ad i) w1 w1)
  had : 0 < w1 → ∀ i, i < n1 → ad i = some ⟨A, i * w1, none⟩
  had2 : 0 < w2 → ∀ i, i < n2 → ad2 i = some ⟨A2, i * w2, none⟩
  two : ∀ k, k < s2 → w.cell? ⟨A2, k, none⟩ = some (mk 5 k)

theorem held_of {w w1' w2' : World} {n1 w1 s1 : Nat} {ra aa : Option Addr} {A R : Nat} {ad : Nat → Option Addr} (hG : Grid w w1' n1 w1 s1 ra aa A R ad (fun _ => .int .i64 0))
    (hC : Chk w1' w2' A s1 s1 3 (fun _ => .int .i64 0)) (hs : (n1 : Int) * (w1 : Int) = (s1 : Int)) (hn : n1 ≤ 65536) (hs1 : s1 ≤ 65536) :
    Held w2' w.heap.size n1 w1 s1 ra aa A R ad (mk 3) :=
  ⟨fun a => ⟨(hG.all a).1, (hC.row a).congr (fun i hi => by rw [if_pos hi])⟩, hG.alln, fun a => ⟨(hG.rows a).1, hC.keep.row (hG.rows a).2 (fun x => hG.ne x.2 x.1.symm)⟩, hG.rown, hG.had, hG.ne, hG.newA, hG.newR,
    by have := hG.keep.size; have := hC.size; omega, mul_nat hs, hn, hs1⟩

theorem fin_of {w w' x : World} {B n1 w1 s1 n2 w2 s2 : Nat} {ra aa ra2 aa2 : Option Addr} {A R A2 R2 rc2 ac2 : Nat} {ad ad2 : Nat → Option Addr} (h : Held w B n1 w1 s1 ra aa A R ad (mk 3))
    (hS : Sec w w' B n1 w1 s1 n2 w2 s2 ra2 aa2 A R A2 R2 rc2 ac2 ad ad2 (mk 3)) (hC : Chk w' x A2 ac2 s2 5 (mk 3)) (h2 : n2 = 0 → s2 = 0) :
    Fin x n1 w1 s1 n2 w2 s2 ra aa A R A2 ad ad2 := by
  refine ⟨fun a => ⟨(h.all a).1, ?_⟩, fun a => ⟨(h.rows a).1, ?_⟩, h.had, hS.had2, fun k hk => ?_⟩
  · by_cases c : 0 < s2 ∧ s2 ≤ s1
    · obtain ⟨rfl, rfl⟩ := hS.oldA1 a c.1 c.2
      refine (hC.row c.1).congr (fun i _ => ?_)
      by_cases e : i < s2
      · rw [if_pos e, if_pos ⟨e, c.2⟩]
      · rw [if_neg e, if_neg (fun x => e x.1)]
    · obtain ⟨q1, q2⟩ := hS.oldA2 a (by omega)
      refine (hC.keep.row q1 (fun x => q2 x.2 x.1.symm)).congr (fun i _ => ?_)
      rw [if_neg (by omega)]
  · have hne : ¬ (R = A2 ∧ 0 < s2) := fun x => hS.neR x.2 a x.1.symm
    by_cases c : 0 < n2 ∧ n2 ≤ n1
    · obtain ⟨rfl, rfl⟩ := hS.oldR1 a c.1 c.2
      refine (hC.keep.row (hS.rows2 c.1).2.2 hne).congr (fun i _ => ?_)
      by_cases e : i < n2
      · rw [if_pos e, if_pos ⟨e, c.2⟩]
      · rw [if_neg e, if_neg (fun x => e x.1)]
    · refine (hC.keep.row (hS.oldR2 a (by omega)) hne).congr (fun i _ => ?_)
      rw [if_neg (by omega)]
  · have := (hC.row (by omega)).cell (i := k) (by have := (hS.all2 (by omega)).2.1; omega)
    rw [this, if_pos hk]

set_option maxHeartbeats 1000000 in
set_option maxRecDepth 100000 in
theorem f5_early (n1 w1 n2 w2 : Int) (w : World)
    (h : (n1 < 0 ∨ w1 < 0 ∨ n2 < 0 ∨ w2 < 0) ∨ (65536 < n1 ∨ 65536 < w1 ∨ 65536 < n2 ∨ 65536 < w2)) :
    Calls Trym.prog 5 #[.int .i64 n1, .int .i64 w1, .int .i64 n2, .int .i64 w2] w fun e w' => e = .returned (.bool true) ∧ w' = w := by
  by_cases c1 : n1 < 0
  · go_enter Trym.func5, Trym.ntmps5
    go_wp2
    go_ret
    exact ⟨rfl, rfl⟩
  by_cases c2 : w1 < 0
  · go_enter Trym.func5, Trym.ntmps5
    go_wp2
    go_ret
    exact ⟨rfl, rfl⟩
  by_cases c3 : n2 < 0
  · go_enter Trym.func5, Trym.ntmps5
    go_wp2
    go_ret
    exact ⟨rfl, rfl⟩
  by_cases c4 : w2 < 0
  · go_enter Trym.func5, Trym.ntmps5
    go_wp2
    go_ret
    exact ⟨rfl, rfl⟩
  by_cases c5 : 65536 < n1
  · go_enter Trym.func5, Trym.ntmps5
    go_wp2
    go_ret
    exact ⟨rfl, rfl⟩
  by_cases c6 : 65536 < w1
  · go_enter Trym.func5, Trym.ntmps5
    go_wp2
    go_ret
    exact ⟨rfl, rfl⟩
  by_cases c7 : 65536 < n2
  · go_enter Trym.func5, Trym.ntmps5
    go_wp2
    go_ret
    exact ⟨rfl, rfl⟩
  · have c8 : 65536 < w2 := by omega
    clear h
    go_enter Trym.func5, Trym.ntmps5
    go_wp2
    go_ret
    exact ⟨rfl, rfl⟩

set_option maxHeartbeats 1000000 in
set_option maxRecDepth 100000 in
theorem f5_wide (n1 w1 n2 w2 : Int) (w : World) (h1 : 0 ≤ n1) (h2 : 0 ≤ w1) (h3 : 0 ≤ n2) (h4 : 0 ≤ w2) (h5 : n1 ≤ 65536) (h6 : w1 ≤ 65536) (h7 : n2 ≤ 65536) (h8 : w2 ≤ 65536)
    (h : (0 < w1 ∧ 65536 / w1 < n1) ∨ (¬ (0 < w1 ∧ 65536 / w1 < n1) ∧ 0 < w2 ∧ 65536 / w2 < n2)) :
    Calls Trym.prog 5 #[.int .i64 n1, .int .i64 w1, .int .i64 n2, .int .i64 w2] w fun e w' => e = .returned (.bool true) ∧ w' = w := by
  rcases h with ⟨ha, hb⟩ | ⟨hx, ha, hb⟩
  · go_enter Trym.func5, Trym.ntmps5
    go_wp2
    go_ret
    exact ⟨rfl, rfl⟩
  · by_cases c : 0 < w1
    · have hy : ¬ 65536 / w1 < n1 := fun y => hx ⟨c, y⟩
      clear hx
      go_enter Trym.func5, Trym.ntmps5
      go_wp2
      go_ret
      exact ⟨rfl, rfl⟩
    · clear hx
      go_enter Trym.func5, Trym.ntmps5
      go_wp2
      go_ret
      exact ⟨rfl, rfl⟩
#print axioms f5_wide
end Go.Proofs.Qxb6605221aMods.Cut

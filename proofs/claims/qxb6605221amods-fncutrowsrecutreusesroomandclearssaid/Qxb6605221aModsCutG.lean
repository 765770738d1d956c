/-
  'zzCheckCut' at every cut; the first cut; the second cut.
-/
import Derived.Test.Qxb6605221aModsCutD
import Derived.Test.Qxb6605221aModsCutF
namespace Go.Proofs.Qxb6605221aMods.Cut
open Go.RowKit Go.Deep
set_option linter.unusedVariables false

theorem mul_nat {n wd s : Nat} (hs : (n : Int) * (wd : Int) = (s : Int)) : n * wd = s := by
  have h : ((n * wd : Nat) : Int) = (s : Int) := by rw [Int.natCast_mul]; exact hs
  exact Int.ofNat_inj.1 h

theorem f14_any (ra aa : Option Addr) (rc ac n wd s m R A c : Nat) (ad : Nat → Option Addr) (salt : Int) (f g : Nat → Value) (w : World) (hn : n ≤ 65536) (hw : wd ≤ 65536) (hs1 : s ≤ 65536) (hs : (n : Int) * (wd : Int) = (s : Int))
    (h2 : 0 ≤ salt) (h3 : salt ≤ 10)
    (hall : 0 < s → aa = some ⟨A, 0, none⟩ ∧ s ≤ c ∧ w.rowIs A 2 c (fun i => if i < s then .int .i64 0 else f i))
    (hrows : 0 < n → ra = some ⟨R, 0, none⟩ ∧ n ≤ m ∧ w.rowIs R 23 m (fun i => if i < n then .slice (ad i) wd wd else g i))
    (had : 0 < wd → ∀ i, i < n → ad i = some ⟨A, i * wd, none⟩) (hne : 0 < s → A ≠ R) :
    Calls Trym.prog 14 #[.slice ra n rc, .slice aa s ac, .int .i64 n, .int .i64 wd, .int .i64 salt] w fun e w' => e = .returned (.bool true) ∧ Chk w w' A c s salt f := by
  have hsn := mul_nat hs
  by_cases e0 : n = 0
  · subst e0
    obtain rfl : s = 0 := by rw [← hsn, Nat.zero_mul]
    exact f14_n0 ra aa rc ac wd A c salt f w hw
  · obtain ⟨rfl, hnm, hR⟩ := hrows (by omega)
    by_cases e1 : wd = 0
    · subst e1
      obtain rfl : s = 0 := by rw [← hsn, Nat.mul_zero]
      exact f14_w0 aa rc ac n m R A c ad salt f g w (by omega) hn hnm hR
    · have hs0 : 0 < s := by rw [← hsn]; exact Nat.mul_pos (by omega) (by omega)
      obtain ⟨rfl, hsc, hA⟩ := hall hs0
      refine f14_main rc ac n wd s m R A c salt f g w (by omega) hn (by omega) hw hs0 hs1 hs h2 h3 hnm hsc (hne hs0) hA (hR.congr (fun i _ => ?_))
      by_cases e : i < n
      · rw [if_pos e, if_pos e, had (by omega) i e]
      · rw [if_neg e, if_neg e]

/-- What a first cut leaves. -/
structure Grid (w w' : World) (n wd s : Nat) (ra aa : Option Addr) (A R : Nat) (ad : Nat → Option Addr) (F : Nat → Value) : Prop where
  keep : Keep (fun _ => False) w w'
  all : 0 < s → aa = some ⟨A, 0, none⟩ ∧ w'.rowIs A 2 s F
  alln : s = 0 → aa = none
  rows : 0 < n → ra = some ⟨R, 0, none⟩ ∧ w'.rowIs R 23 n (fun i => .slice (ad i) wd wd)
  rown : n = 0 → ra = none
  had : 0 < wd → ∀ i, i < n → ad i = some ⟨A, i * wd, none⟩
  ne : 0 < s → A ≠ R
  newA : w.heap.size ≤ A
  newR : w.heap.size ≤ R

structure FirstOut (w : World) (n wd s : Nat) (e : Ending) (w' : World) : Prop where
  out : ∃ (ra aa : Option Addr) (A R : Nat) (ad : Nat → Option Addr), e = .returned (.tuple #[.slice ra n n, .slice aa s s]) ∧ Grid w w' n wd s ra aa A R ad (fun _ => .int .i64 0)

theorem f17_first (n wd s : Nat) (w : World) (hn : n ≤ 65536) (hw : wd ≤ 65536) (hs1 : s ≤ 65536) (hs : (n : Int) * (wd : Int) = (s : Int)) :
    Calls Trym.prog 17 #[.slice none 0 0, .slice none 0 0, .int .i64 n, .int .i64 wd] w fun e w' => FirstOut w n wd s e w' := by
  have hsn := mul_nat hs
  by_cases e0 : n = 0
  · subst e0
    obtain rfl : s = 0 := by rw [← hsn, Nat.zero_mul]
    refine (f17_n0nne 0 0 0 0 wd w hw (by omega) (by omega)).mono fun e w' ⟨he, hk⟩ => ?_
    exact ⟨none, none, w.heap.size, w.heap.size + 1, fun _ => none, he, ⟨hk, by omega, fun _ => rfl, by omega, fun _ => rfl, fun _ i hi => absurd hi (Nat.not_lt_zero _), by omega, by omega, by omega⟩⟩
  · by_cases e1 : wd = 0
    · subst e1
      obtain rfl : s = 0 := by rw [← hsn, Nat.mul_zero]
      refine (f17_w0nf 0 0 0 0 n w none (by omega) (fun _ => .slice none 0 0) (by omega) hn (by omega) (beq_eq_false_iff_ne.2 (by omega))).mono fun e w' ⟨he, hm⟩ => ?_
      refine ⟨some ⟨w.heap.size, 0, none⟩, none, w.heap.size + 1, w.heap.size, fun _ => none, he, ⟨?_, by omega, fun _ => rfl, fun _ => ⟨rfl, hm.rows.congr (fun i hi => by rw [if_pos hi])⟩, by omega, by omega, by omega, by omega, by omega⟩⟩
      exact ⟨hm.keep.os, hm.keep.tape, hm.keep.output, hm.keep.size, fun k hk _ => hm.keep.block k hk (by omega)⟩
    · have hs0 : 0 < s := by rw [← hsn]; exact Nat.mul_pos (by omega) (by omega)
      refine (f17_ff none none 0 0 0 0 n wd s (fun _ => .int .i64 0) (fun _ => .slice none 0 0) w (by omega) hn (by omega) hw hs0 hs1 hs hs0 (by omega) (beq_eq_false_iff_ne.2 (by omega))).mono fun e w' ⟨he, hm⟩ => ?_
      refine ⟨some ⟨w.heap.size + 1, 0, none⟩, some ⟨w.heap.size, 0, none⟩, w.heap.size, w.heap.size + 1, fun i => some ⟨w.heap.size, i * wd, none⟩, he, ⟨?_, fun _ => ⟨rfl, hm.all.congr (fun i hi => by rw [if_pos hi])⟩, by omega, fun _ => ⟨rfl, hm.rows.congr (fun i hi => by rw [if_pos hi])⟩, by omega, fun _ i _ => rfl, by omega, by omega, by omega⟩⟩
      exact ⟨hm.keep.os, hm.keep.tape, hm.keep.output, hm.keep.size, fun k hk _ => hm.keep.block k hk (by omega)⟩
#print axioms f17_first
end Go.Proofs.Qxb6605221aMods.Cut

/-
  The second cut, out of what the first one gave.
-/
import Derived.Test.Qxb6605221aModsCutG
namespace Go.Proofs.Qxb6605221aMods.Cut
open Go.RowKit Go.Deep
set_option linter.unusedVariables false

/-- What the first cut is when the second begins. -/
structure Held (w : World) (B n1 w1 s1 : Nat) (ra aa : Option Addr) (A R : Nat) (ad : Nat → Option Addr) (F : Nat → Value) : Prop where
  all : 0 < s1 → aa = some ⟨A, 0, none⟩ ∧ w.rowIs A 2 s1 F
  alln : s1 = 0 → aa = none
  rows : 0 < n1 → ra = some ⟨R, 0, none⟩ ∧ w.rowIs R 23 n1 (fun i => .slice (ad i) w1 w1)
  rown : n1 = 0 → ra = none
  had : 0 < w1 → ∀ i, i < n1 → ad i = some ⟨A, i * w1, none⟩
  ne : 0 < s1 → A ≠ R
  newA : B ≤ A
  newR : B ≤ R
  size : B ≤ w.heap.size
  mul : n1 * w1 = s1
  n1 : n1 ≤ 65536
  s1 : s1 ≤ 65536

structure Sec (w w' : World) (B n1 w1 s1 n2 w2 s2 : Nat) (ra2 aa2 : Option Addr) (A R A2 R2 rc2 ac2 : Nat) (ad ad2 : Nat → Option Addr) (F : Nat → Value) : Prop where
  keep : Keep (fun b => (b = A ∧ 0 < s1) ∨ (b = R ∧ 0 < n1)) w w'
  all2 : 0 < s2 → aa2 = some ⟨A2, 0, none⟩ ∧ s2 ≤ ac2 ∧ w'.rowIs A2 2 ac2 (fun i => if i < s2 then .int .i64 0 else F i)
  rows2 : 0 < n2 → ra2 = some ⟨R2, 0, none⟩ ∧ n2 ≤ rc2 ∧ w'.rowIs R2 23 rc2 (fun i => if i < n2 then .slice (ad2 i) w2 w2 else .slice (ad i) w1 w1)
  had2 : 0 < w2 → ∀ i, i < n2 → ad2 i = some ⟨A2, i * w2, none⟩
  ne2 : 0 < s2 → A2 ≠ R2
  oldA1 : 0 < s1 → 0 < s2 → s2 ≤ s1 → A2 = A ∧ ac2 = s1
  oldA2 : 0 < s1 → (s1 < s2 ∨ s2 = 0) → w'.rowIs A 2 s1 F ∧ (0 < s2 → A2 ≠ A)
  oldR1 : 0 < n1 → 0 < n2 → n2 ≤ n1 → R2 = R ∧ rc2 = n1
  oldR2 : 0 < n1 → (n1 < n2 ∨ n2 = 0) → w'.rowIs R 23 n1 (fun i => .slice (ad i) w1 w1)
  neR : 0 < s2 → 0 < n1 → A2 ≠ R
  newA2 : 0 < s2 → B ≤ A2

structure SecOut (w : World) (B n1 w1 s1 n2 w2 s2 A R : Nat) (ad : Nat → Option Addr) (F : Nat → Value) (e : Ending) (w' : World) : Prop where
  out : ∃ (ra2 aa2 : Option Addr) (A2 R2 rc2 ac2 : Nat) (ad2 : Nat → Option Addr), e = .returned (.tuple #[.slice ra2 n2 rc2, .slice aa2 s2 ac2]) ∧ Sec w w' B n1 w1 s1 n2 w2 s2 ra2 aa2 A R A2 R2 rc2 ac2 ad ad2 F

theorem sec_of_mid {w w' : World} {B n1 w1 s1 n2 w2 s2 : Nat} {ra aa : Option Addr} {A R A2 R2 rc2 ac2 : Nat} {ad : Nat → Option Addr} {F : Nat → Value} (h : Held w B n1 w1 s1 ra aa A R ad F)
    (hm : Mid w w' A2 R2 ac2 rc2 s2 w2 n2 F (fun i => .slice (ad i) w1 w1)) (hne : A2 ≠ R2)
    (hA : (A2 = A ∧ ac2 = s1 ∧ 0 < s1 ∧ s2 ≤ s1) ∨ (w.heap.size ≤ A2 ∧ s1 < s2 ∧ s2 ≤ ac2))
    (hR : (R2 = R ∧ rc2 = n1 ∧ 0 < n1 ∧ n2 ≤ n1) ∨ (w.heap.size ≤ R2 ∧ n1 < n2 ∧ n2 ≤ rc2)) (hn0 : 0 < n2) (hs0 : 0 < s2) :
    Sec w w' B n1 w1 s1 n2 w2 s2 (some ⟨R2, 0, none⟩) (some ⟨A2, 0, none⟩) A R A2 R2 rc2 ac2 ad (fun i => some ⟨A2, i * w2, none⟩) F := by
  have lA : 0 < s1 → A < w.heap.size := fun x => (h.all x).2.lt
  have lR : 0 < n1 → R < w.heap.size := fun x => (h.rows x).2.lt
  have hB := h.size
  have hBA := h.newA
  have hn : 0 < s1 → A ≠ R := h.ne
  refine ⟨?_, fun _ => ⟨rfl, by omega, hm.all⟩, fun _ => ⟨rfl, by omega, hm.rows⟩, fun _ i _ => rfl, fun _ => hne, fun a b c => by omega, fun a b => ⟨?_, fun c => ?_⟩, fun a b c => by omega, fun a b => ?_, fun a b => ?_, fun a => by omega⟩
  · exact ⟨hm.keep.os, hm.keep.tape, hm.keep.output, hm.keep.size, fun k hk hs => hm.keep.block k hk (by omega)⟩
  · exact hm.keep.row (h.all a).2 (by have := lA a; have := hn a; omega)
  · have := lA a; omega
  · exact hm.keep.row (h.rows a).2 (by have := lR a; omega)
  · have := lR b; omega

theorem sec_main {B n1 w1 s1 n2 w2 s2 : Nat} {ra aa : Option Addr} {A R : Nat} {ad : Nat → Option Addr} {F : Nat → Value} {w : World} (h : Held w B n1 w1 s1 ra aa A R ad F) (hw1 : w1 ≤ 65536)
    (hn0 : 0 < n2) (hn : n2 ≤ 65536) (hw0 : 0 < w2) (hw : w2 ≤ 65536) (hs0 : 0 < s2) (hs1 : s2 ≤ 65536) (hs : (n2 : Int) * (w2 : Int) = (s2 : Int)) :
    Calls Trym.prog 17 #[.slice ra n1 n1, .slice aa s1 s1, .int .i64 n2, .int .i64 w2] w fun e w' => SecOut w B n1 w1 s1 n2 w2 s2 A R ad F e w' := by
  have hsn := mul_nat hs
  have hB := h.size
  have hb1 := h.n1
  have hb2 := h.s1
  by_cases cA : s1 < s2
  · by_cases cR : n1 < n2
    · refine (f17_ff ra aa n1 n1 s1 s1 n2 w2 s2 F (fun i => .slice (ad i) w1 w1) w hn0 hn hw0 hw hs0 hs1 hs cA cR (beq_eq_false_iff_ne.2 (by omega))).mono fun e w' ⟨he, hm⟩ => ?_
      exact ⟨_, _, _, _, _, _, _, he, sec_of_mid h hm (by omega) (.inr ⟨by omega, cA, by omega⟩) (.inr ⟨by omega, cR, by omega⟩) hn0 hs0⟩
    · obtain ⟨hra, hRr⟩ := h.rows (by omega)
      by_cases cE : n1 = n2
      · subst cE
        have hlt : w1 < w2 := by
          have := h.mul
          rcases Nat.lt_or_ge w1 w2 with x | x
          · exact x
          · have : n1 * w2 ≤ n1 * w1 := Nat.mul_le_mul_left _ x
            omega
        refine (f17_fx ra aa n1 s1 s1 n1 w2 s2 R F (fun i => .slice (ad i) w1 w1) w hn0 hn hw0 hw hs0 hs1 hs cA hra (by omega) (by omega) hRr (ad 0) w1 w1 rfl (beq_eq_false_iff_ne.2 (by omega))).mono fun e w' ⟨he, hm⟩ => ?_
        exact ⟨_, _, _, _, _, _, _, he, sec_of_mid h hm (by have := hRr.lt; omega) (.inr ⟨by omega, cA, by omega⟩) (.inl ⟨rfl, rfl, by omega, by omega⟩) hn0 hs0⟩
      · refine (f17_fo ra aa n1 n1 s1 s1 n2 w2 s2 R F (fun i => .slice (ad i) w1 w1) w hn0 hn hw0 hw hs0 hs1 hs cA hra (by omega) (by omega) hRr (beq_eq_false_iff_ne.2 (by omega))).mono fun e w' ⟨he, hm⟩ => ?_
        exact ⟨_, _, _, _, _, _, _, he, sec_of_mid h hm (by have := hRr.lt; omega) (.inr ⟨by omega, cA, by omega⟩) (.inl ⟨rfl, rfl, by omega, by omega⟩) hn0 hs0⟩
  · obtain ⟨haa, hAr⟩ := h.all (by omega)
    have hne := h.ne (by omega)
    by_cases cR : n1 < n2
    · refine (f17_of ra aa n1 n1 s1 s1 n2 w2 s2 A F (fun i => .slice (ad i) w1 w1) w hn0 hn hw0 hw hs0 hs1 hs haa (by omega) (by omega) hAr cR (beq_eq_false_iff_ne.2 (by omega))).mono fun e w' ⟨he, hm⟩ => ?_
      exact ⟨_, _, _, _, _, _, _, he, sec_of_mid h hm (by have := hAr.lt; omega) (.inl ⟨rfl, rfl, by omega, by omega⟩) (.inr ⟨by omega, cR, by omega⟩) hn0 hs0⟩
    · obtain ⟨hra, hRr⟩ := h.rows (by omega)
      by_cases cE : n1 = n2
      · subst cE
        by_cases cW : w1 = w2
        · subst cW
          subst hra haa
          refine (f17_same n1 s1 s1 n1 w1 s2 A R F (fun i => .slice (ad i) w1 w1) w hn0 hn hw0 hw hs0 hs1 hs (by omega) (by omega) hAr (by omega) hne hRr (fun i hi => by rw [h.had hw0 i hi])).mono fun e w' ⟨he, hm⟩ => ?_
          exact ⟨_, _, _, _, _, _, _, he, sec_of_mid h hm hne (.inl ⟨rfl, rfl, by omega, by omega⟩) (.inl ⟨rfl, rfl, by omega, by omega⟩) hn0 hs0⟩
        · refine (f17_ox ra aa n1 s1 s1 n1 w2 s2 A R F (fun i => .slice (ad i) w1 w1) w hn0 hn hw0 hw hs0 hs1 hs haa (by omega) (by omega) hAr hra (by omega) (by omega) hne hRr (ad 0) w1 w1 rfl (beq_eq_false_iff_ne.2 (by omega))).mono fun e w' ⟨he, hm⟩ => ?_
          exact ⟨_, _, _, _, _, _, _, he, sec_of_mid h hm hne (.inl ⟨rfl, rfl, by omega, by omega⟩) (.inl ⟨rfl, rfl, by omega, by omega⟩) hn0 hs0⟩
      · refine (f17_oo ra aa n1 n1 s1 s1 n2 w2 s2 A R F (fun i => .slice (ad i) w1 w1) w hn0 hn hw0 hw hs0 hs1 hs haa (by omega) (by omega) hAr hra (by omega) (by omega) hne hRr (beq_eq_false_iff_ne.2 (by omega))).mono fun e w' ⟨he, hm⟩ => ?_
        exact ⟨_, _, _, _, _, _, _, he, sec_of_mid h hm hne (.inl ⟨rfl, rfl, by omega, by omega⟩) (.inl ⟨rfl, rfl, by omega, by omega⟩) hn0 hs0⟩

theorem sec_of_mid0 {w w' : World} {B n1 w1 s1 n2 : Nat} {ra aa : Option Addr} {A R R2 rc2 ac2 : Nat} {ad : Nat → Option Addr} {F : Nat → Value} (h : Held w B n1 w1 s1 ra aa A R ad F)
    (hm : Mid0 w w' R2 rc2 n2 (.slice aa 0 0) (fun i => .slice (ad i) w1 w1))
    (hR : (R2 = R ∧ rc2 = n1 ∧ 0 < n1 ∧ n2 ≤ n1) ∨ (w.heap.size ≤ R2 ∧ n1 < n2 ∧ n2 ≤ rc2)) (hn0 : 0 < n2) :
    Sec w w' B n1 w1 s1 n2 0 0 (some ⟨R2, 0, none⟩) aa A R A R2 rc2 ac2 ad (fun _ => aa) F := by
  have lA : 0 < s1 → A < w.heap.size := fun x => (h.all x).2.lt
  have lR : 0 < n1 → R < w.heap.size := fun x => (h.rows x).2.lt
  have hn : 0 < s1 → A ≠ R := h.ne
  refine ⟨?_, by omega, fun _ => ⟨rfl, by omega, hm.rows⟩, by omega, by omega, by omega, fun a b => ⟨?_, by omega⟩, fun a b c => by omega, fun a b => ?_, by omega, by omega⟩
  · exact ⟨hm.keep.os, hm.keep.tape, hm.keep.output, hm.keep.size, fun k hk hs => hm.keep.block k hk (by omega)⟩
  · exact hm.keep.row (h.all a).2 (by have := lA a; have := hn a; omega)
  · exact hm.keep.row (h.rows a).2 (by have := lR a; omega)

theorem sec_w0 {B n1 w1 s1 n2 : Nat} {ra aa : Option Addr} {A R : Nat} {ad : Nat → Option Addr} {F : Nat → Value} {w : World} (h : Held w B n1 w1 s1 ra aa A R ad F) (hn0 : 0 < n2) (hn : n2 ≤ 65536) :
    Calls Trym.prog 17 #[.slice ra n1 n1, .slice aa s1 s1, .int .i64 n2, .int .i64 0] w fun e w' => SecOut w B n1 w1 s1 n2 0 0 A R ad F e w' := by
  have hb1 := h.n1
  have hb2 := h.s1
  by_cases cA : s1 = 0
  · obtain rfl := h.alln cA
    by_cases cR : n1 < n2
    · refine (f17_w0nf n1 n1 s1 s1 n2 w ra cR (fun i => .slice (ad i) w1 w1) hn0 hn (by omega) (beq_eq_false_iff_ne.2 (by omega))).mono fun e w' ⟨he, hm⟩ => ?_
      exact ⟨_, _, _, _, _, _, _, he, sec_of_mid0 h hm (.inr ⟨by omega, cR, by omega⟩) hn0⟩
    · obtain ⟨rfl, hRr⟩ := h.rows (by omega)
      by_cases cE : n1 = n2
      · subst cE
        refine (f17_w0ne 0 n1 s1 s1 n1 w R (by omega) (by omega) (fun i => .slice (ad i) w1 w1) hRr hn0 hn (by omega)).mono fun e w' ⟨he, hm⟩ => ?_
        exact ⟨_, _, _, _, _, _, _, he, sec_of_mid0 h hm (.inl ⟨rfl, rfl, by omega, by omega⟩) hn0⟩
      · refine (f17_w0no n1 n1 s1 s1 n2 w R (by omega) (by omega) (fun i => .slice (ad i) w1 w1) hRr hn0 hn (by omega) (beq_eq_false_iff_ne.2 (by omega))).mono fun e w' ⟨he, hm⟩ => ?_
        exact ⟨_, _, _, _, _, _, _, he, sec_of_mid0 h hm (.inl ⟨rfl, rfl, by omega, by omega⟩) hn0⟩
  · obtain ⟨rfl, hAr⟩ := h.all (by omega)
    by_cases cR : n1 < n2
    · refine (f17_w0sf n1 n1 s1 s1 n2 A w ra cR (fun i => .slice (ad i) w1 w1) hn0 hn (by omega) (beq_eq_false_iff_ne.2 (by omega))).mono fun e w' ⟨he, hm⟩ => ?_
      exact ⟨_, _, _, _, _, _, _, he, sec_of_mid0 h hm (.inr ⟨by omega, cR, by omega⟩) hn0⟩
    · obtain ⟨rfl, hRr⟩ := h.rows (by omega)
      by_cases cE : n1 = n2
      · subst cE
        refine (f17_w0se 0 n1 s1 s1 n1 A w R (by omega) (by omega) (fun i => .slice (ad i) w1 w1) hRr hn0 hn (by omega)).mono fun e w' ⟨he, hm⟩ => ?_
        exact ⟨_, _, _, _, _, _, _, he, sec_of_mid0 h hm (.inl ⟨rfl, rfl, by omega, by omega⟩) hn0⟩
      · refine (f17_w0so n1 n1 s1 s1 n2 A w R (by omega) (by omega) (fun i => .slice (ad i) w1 w1) hRr hn0 hn (by omega) (beq_eq_false_iff_ne.2 (by omega))).mono fun e w' ⟨he, hm⟩ => ?_
        exact ⟨_, _, _, _, _, _, _, he, sec_of_mid0 h hm (.inl ⟨rfl, rfl, by omega, by omega⟩) hn0⟩

theorem sec_of_keep {w w' : World} {B n1 w1 s1 w2 : Nat} {ra aa ra2 aa2 : Option Addr} {A R rc2 ac2 : Nat} {ad : Nat → Option Addr} {F : Nat → Value} (h : Held w B n1 w1 s1 ra aa A R ad F) (hk : Keep (fun _ => False) w w') :
    Sec w w' B n1 w1 s1 0 w2 0 ra2 aa2 A R A R rc2 ac2 ad (fun _ => none) F :=
  ⟨hk.mono (fun _ x => x.elim), by omega, by omega, fun _ i hi => absurd hi (Nat.not_lt_zero _), by omega, by omega, fun a _ => ⟨hk.row (h.all a).2 (fun x => x), by omega⟩, by omega, fun a _ => hk.row (h.rows a).2 (fun x => x), by omega, by omega⟩

theorem sec_n0 {B n1 w1 s1 w2 : Nat} {ra aa : Option Addr} {A R : Nat} {ad : Nat → Option Addr} {F : Nat → Value} {w : World} (h : Held w B n1 w1 s1 ra aa A R ad F) (hw : w2 ≤ 65536) :
    Calls Trym.prog 17 #[.slice ra n1 n1, .slice aa s1 s1, .int .i64 0, .int .i64 w2] w fun e w' => SecOut w B n1 w1 s1 0 w2 0 A R ad F e w' := by
  have hb1 := h.n1
  have hb2 := h.s1
  by_cases cR : n1 = 0
  · obtain rfl := h.rown cR
    have cA : s1 = 0 := by rw [← h.mul, cR, Nat.zero_mul]
    obtain rfl := h.alln cA
    subst cR
    refine (f17_n0nne 0 0 s1 s1 w2 w hw (by omega) (by omega)).mono fun e w' ⟨he, hk⟩ => ?_
    exact ⟨_, _, _, _, _, _, _, he, sec_of_keep h hk⟩
  · obtain ⟨rfl, _⟩ := h.rows (by omega)
    by_cases cA : s1 = 0
    · obtain rfl := h.alln cA
      refine (f17_n0snx n1 n1 s1 s1 w2 R w hw (by omega) (by omega) (beq_eq_false_iff_ne.2 (by omega))).mono fun e w' ⟨he, hk⟩ => ?_
      exact ⟨_, _, _, _, _, _, _, he, sec_of_keep h hk⟩
    · obtain ⟨rfl, _⟩ := h.all (by omega)
      refine (f17_n0ssx n1 n1 s1 s1 w2 R A w hw (by omega) (by omega) (beq_eq_false_iff_ne.2 (by omega))).mono fun e w' ⟨he, hk⟩ => ?_
      exact ⟨_, _, _, _, _, _, _, he, sec_of_keep h hk⟩

theorem f17_second {B n1 w1 s1 n2 w2 s2 : Nat} {ra aa : Option Addr} {A R : Nat} {ad : Nat → Option Addr} {F : Nat → Value} {w : World} (h : Held w B n1 w1 s1 ra aa A R ad F) (hw1 : w1 ≤ 65536)
    (hn : n2 ≤ 65536) (hw : w2 ≤ 65536) (hs1 : s2 ≤ 65536) (hs : (n2 : Int) * (w2 : Int) = (s2 : Int)) :
    Calls Trym.prog 17 #[.slice ra n1 n1, .slice aa s1 s1, .int .i64 n2, .int .i64 w2] w fun e w' => SecOut w B n1 w1 s1 n2 w2 s2 A R ad F e w' := by
  have hsn := mul_nat hs
  by_cases e0 : n2 = 0
  · subst e0
    obtain rfl : s2 = 0 := by rw [← hsn, Nat.zero_mul]
    exact sec_n0 h hw
  · by_cases e1 : w2 = 0
    · subst e1
      obtain rfl : s2 = 0 := by rw [← hsn, Nat.mul_zero]
      exact sec_w0 h (by omega) hn
    · exact sec_main h hw1 (by omega) hn (by omega) hw (by rw [← hsn]; exact Nat.mul_pos (by omega) (by omega)) hs1 hs
#print axioms f17_second
end Go.Proofs.Qxb6605221aMods.Cut

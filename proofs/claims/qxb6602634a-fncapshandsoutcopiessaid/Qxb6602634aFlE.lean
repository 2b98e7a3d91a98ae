/-
  FLOATS THAT ARE NO NaN. By an AI agent.
-/
import Derived.Test.Qxb6602634aFlD
namespace Go.Proofs.Qxb6602634a.Fl
open Ieee
set_option linter.unusedVariables false

/-- A number or an infinity. -/
def Num (x : Nat) : Prop := (∃ s m p, double.read x = .number s m p) ∨ ∃ s, double.read x = .infinity s

theorem num_word (neg : Bool) (rung : Nat) (h : rung ≤ 9218868437227405312) : Num (double.word neg rung) := by
  have hr : double.word neg rung % 9223372036854775808 = rung := by
    unfold Format.word
    rw [signWeight_eq]
    cases neg <;> simp <;> omega
  unfold Num Format.read
  simp only [signWeight_eq, binade_eq, infRung_eq, hr]
  split
  · left; exact ⟨_, _, _, rfl⟩
  · split
    · left; exact ⟨_, _, _, rfl⟩
    · rw [if_pos (by omega)]
      right; exact ⟨_, rfl⟩
theorem num_nearest (neg : Bool) (m : Nat) (p : Int) : Num (double.nearest neg m p) := by
  unfold Format.nearest
  split
  · exact num_word _ _ (by decide)
  · simp only [infRung_eq]
    exact num_word _ _ (Nat.min_le_right _ _)
theorem num_inf (neg : Bool) : Num (double.write (.infinity neg)) := by
  unfold Format.write
  rw [infRung_eq]
  exact num_word _ _ (Nat.le_refl _)

theorem num_div {x y b : Nat} (hx : Num x) (hy : Is y b) : ∃ z, double.div x y = some z ∧ Num z := by
  obtain ⟨n, l, ry, n1, _, _⟩ := hy
  have n0 : n ≠ 0 := by have := Nat.two_pow_pos 52; omega
  unfold Format.div
  rw [ry]
  rcases hx with ⟨s, m, p, rx⟩ | ⟨s, rx⟩
  · rw [rx]
    simp only [Datum.quotient, if_neg n0, Option.map_some]
    exact ⟨_, rfl, num_nearest _ _ _⟩
  · rw [rx]
    simp only [Datum.quotient, Option.map_some]
    exact ⟨_, rfl, num_inf _⟩
theorem num_add {x y b : Nat} (hx : Num x) (hy : Is y b) : ∃ z, double.add x y = some z := by
  obtain ⟨n, l, ry, n1, _, _⟩ := hy
  unfold Format.add
  rw [ry]
  rcases hx with ⟨s, m, p, rx⟩ | ⟨s, rx⟩
  · rw [rx]; exact ⟨_, rfl⟩
  · rw [rx]; exact ⟨_, rfl⟩
theorem num_self {x : Nat} (hx : Num x) : double.order x x = some .eq := by
  unfold Format.order
  rcases hx with ⟨s, m, p, rx⟩ | ⟨s, rx⟩
  · rw [rx]; simp only [Datum.order, cmp_eq]
  · rw [rx]; cases s <;> rfl
theorem one_is : ∃ K1, Is 4607182418800017408 K1 := ⟨_, pow_is _ 1022 (by decide) (by decide)⟩
end Go.Proofs.Qxb6602634a.Fl

/-
  'b1SameBase' AND THE WALK OF 'FnBaseRefusalsReloadIdempotent'. By an AI agent.
-/
import Derived.Test.Qxb6602634aExact
import Derived.Deep.QuietTactic
import Derived.BigQuiet
import Derived.WalkSmall
namespace Go.Proofs.Qxb6602634a
open Go.RowKit Go.Maps
set_option linter.unusedVariables false

/-- A count as it is loaded back. -/
def pos (x : Int) : Int := if 0 < x then x else 0

/-- The base of g, by the map's own reference. -/
def BaseR (W : World) (g : Nat → Int) (r : Option Nat) : Prop :=
  (Pn g 3 = 0 ∧ r = none) ∨ (0 < Pn g 3 ∧ ∃ B, r = some B ∧ W.ownsMap Try.prog 44 (plainElem Try.prog 2) B 3 (Dm g 3))
theorem Base.ref {W : World} {g : Nat → Int} {v : Value} (h : Base W g v) : ∃ r, v = .map r ∧ BaseR W g r := by
  rcases h with ⟨p, rfl⟩ | ⟨p, B, rfl, ho⟩
  · exact ⟨none, rfl, .inl ⟨p, rfl⟩⟩
  · exact ⟨some B, rfl, .inr ⟨p, B, rfl, ho⟩⟩

section
variable {W : World} {g : Nat → Int} {r : Option Nat}
theorem BaseR.look (h : BaseR W g r) (k : Nat) (hk : k < 3) : (Instr.lookup 40 (.map r) (.int .i64 (k : Int)) false).run Try.prog W = .ok (.int .i64 (pos (g k))) W := by
  rcases h with ⟨p, rfl⟩ | ⟨p, B, rfl, ho⟩
  · rw [pos, if_neg (Pn_mono g k p hk)]
    exact look_nil (P := Try.prog) (w := W) false law Try.underlying40 (zero2 W) (key_of k hk)
  · obtain ⟨c, hrun, hat, _⟩ := ho.lookup_int law Try.underlying40 Try.underlying2 (zero2 W) (key_of k hk)
    rw [look_val hk hat] at hrun
    exact hrun
theorem BaseR.ok (h : BaseR W g r) (k : Nat) (hk : k < 3) : (Instr.lookup 40 (.map r) (.int .i64 (k : Int)) true).run Try.prog W = .ok (.tuple #[.int .i64 (pos (g k)), .bool (decide (0 < g k))]) W := by
  rcases h with ⟨p, rfl⟩ | ⟨p, B, rfl, ho⟩
  · rw [pos, if_neg (Pn_mono g k p hk), decide_eq_false (Pn_mono g k p hk)]
    exact look_nil (P := Try.prog) (w := W) true law Try.underlying40 (zero2 W) (key_of k hk)
  · obtain ⟨v, ps, hrun, hv⟩ := ho.look_ok law Try.underlying40 (zero2 W) (plainElem_int Try.underlying2 (by decide)) (key_of k hk)
    obtain ⟨c, rfl, hc, _⟩ := plainElem_int_inv Try.underlying2 hv
    simp only [Prod.mk.injEq] at hc
    rw [look_val hk hc.1, look_has hk] at hrun
    exact hrun
theorem BaseR.len (h : BaseR W g r) (ty : TypeId) : (Builtin.len_ #[40] ty #[.map r]).run Try.prog W = .ok (.int .i64 (Pn g 3 : Nat)) W := by
  rcases h with ⟨p, rfl⟩ | ⟨p, B, rfl, ho⟩
  · rw [p]; exact len_nil (P := Try.prog) (w := W) Try.underlying40 ty
  · rw [← Dm_size]; exact ho.len Try.underlying40 ty
theorem BaseR.isNone (h : BaseR W g r) : r.isNone = (((Pn g 3 : Nat) : Int) == 0) := by
  rcases h with ⟨p, rfl⟩ | ⟨p, B, rfl, ho⟩
  · rw [p]; rfl
  · have : (((Pn g 3 : Nat) : Int) == 0) = false := beq_eq_false_iff_ne.2 (by omega)
    rw [this]; rfl
theorem own_below {W' : World} {n B m : Nat} {D : DataW Unit} (h : W.ownsMap Try.prog 44 (plainElem Try.prog 2) B m D) (hb : Below n W W') (hn : B < n) : W'.ownsMap Try.prog 44 (plainElem Try.prog 2) B m D := by
  obtain ⟨es, clock, hh, F, hs, hD⟩ := h
  exact ⟨es, clock, (hb.block B hn).trans hh, F, hs, hD⟩
theorem BaseR.below (h : BaseR W g r) {W' : World} (hb : Below W.heap.size W W') : BaseR W' g r := by
  rcases h with ⟨p, rfl⟩ | ⟨p, B, rfl, ho⟩
  · exact .inl ⟨p, rfl⟩
  · exact .inr ⟨p, B, rfl, own_below ho hb ho.lt⟩
theorem BaseR.drewN (h : BaseR W g r) (n : Nat) : BaseR (W.drewN n) g r := h.below (below_drewN (Below.refl _ _) n)
end

theorem pos_iff (x : Int) : 0 < pos x ↔ 0 < x := by unfold pos; split <;> omega
theorem Pn_reload (g h : Nat → Int) (e : ∀ i, h i = pos (g i)) : ∀ k, Pn h k = Pn g k
  | 0 => rfl
  | k + 1 => by
    have hi : (0 < h k) = (0 < g k) := by rw [e k]; exact propext (pos_iff _)
    simp only [Pn, hi, Pn_reload g h e k]
theorem Dm_reload (g h : Nat → Int) (e : ∀ i, h i = pos (g i)) : ∀ k, Dm h k = Dm g k
  | 0 => rfl
  | k + 1 => by
    have hi : (0 < h k) = (0 < g k) := by rw [e k]; exact propext (pos_iff _)
    simp only [Dm, hi, Dm_reload g h e k]
    by_cases hp : 0 < g k
    · rw [if_pos hp, if_pos hp, e k, pos, if_pos hp]
    · rw [if_neg hp, if_neg hp]
theorem BaseR.reload {W : World} {g h : Nat → Int} {r : Option Nat} (hB : BaseR W h r) (e : ∀ i, h i = pos (g i)) : BaseR W g r := by
  unfold BaseR at *
  rw [Pn_reload g h e, Dm_reload g h e] at hB
  exact hB

set_option maxHeartbeats 1000000 in
set_option maxRecDepth 100000 in
theorem same_any (g : Nat → Int) (r r2 : Option Nat) (W : World) (h1 : BaseR W g r) (h2 : BaseR W g r2) :
    Calls Try.prog 14 #[.map r, .map r2] W fun e w' => e = .returned (.bool true) ∧ w' = W := by
  have L1 := hide h1.ok
  have L2 := hide h2.ok
  have l1 := h1.len
  have l2 := h2.len
  have he := fun w => run_eql_map_nil (P := Try.prog) w 40 44 2 r Try.underlying40
  have he2 := fun w => run_eql_map_nil (P := Try.prog) w 40 44 2 r2 Try.underlying40
  rw [h1.isNone] at he
  rw [h2.isNone] at he2
  clear h1 h2
  go_enter Try.func14, Try.ntmps14
  go_wp2_with fail
  go_loop [5, 6] (fun p i => ∃ k : Nat, k ≤ 3 ∧ i = .int .i64 k ∧ p = .int .i64 (Pn g k)) (fun _ i => 3 - (intOf i).toNat)
  case atStart => exact ⟨0, by decide, rfl, rfl⟩
  case round =>
    obtain ⟨k, hk, rfl, rfl⟩ := hrel
    have pl := Pn_le g k
    by_cases hlt : k < 3
    · have a1 := unhide L1 k hlt
      have a2 := unhide L2 k hlt
      by_cases hpos : 0 < g k
      · have HP := hide hpos
        rw [decide_eq_true hpos] at a1 a2
        go_wp2
        go_round
        case rel => exact ⟨k + 1, by omega, by go_num, by rw [Pn_pos _ _ (unhide HP)]; go_num⟩
        case measure => simp [intOf]; omega
      · have HP := hide hpos
        rw [decide_eq_false hpos] at a1 a2
        go_wp2
        go_round
        case rel => exact ⟨k + 1, by omega, by go_num, by rw [Pn_neg _ _ (unhide HP)]⟩
        case measure => simp [intOf]; omega
    · have : k = 3 := by omega
      subst this
      go_wp2
      go_ret
      exact ⟨by simp, rfl⟩
end Go.Proofs.Qxb6602634a

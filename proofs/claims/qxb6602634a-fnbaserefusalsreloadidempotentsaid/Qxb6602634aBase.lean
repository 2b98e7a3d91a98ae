/-
  THE BASE OF A BUDGET's REFUSALS: the map as a datum; 'baseRefusals'. By an AI agent.
-/
import Derived.Test.Qxb6602634aBudget
import Derived.Maps.OwnSet
import Derived.Maps.OwnOps
namespace Go.Proofs.Qxb6602634a
open Go.RowKit Go.Maps
set_option linter.unusedVariables false

theorem law : Keyed Try.prog 44 := int_keyed Try.underlying44
theorem zero2 (w : World) : (zeroValue 2).run Try.prog w = .ok (.int .i64 0) w := by kernel_rfl

/-- The datum after k counts. -/
def Dm (g : Nat → Int) : Nat → DataW Unit
  | 0 => .map []
  | k + 1 => if 0 < g k then (Dm g k).put (.int .i64 k) (.lit (.int .i64 (g k))) else Dm g k
/-- How many of the first k counts are above 0. -/
def Pn (g : Nat → Int) : Nat → Nat
  | 0 => 0
  | k + 1 => if 0 < g k then Pn g k + 1 else Pn g k

theorem Dm_tidy (g : Nat → Int) : ∀ k, Tidy (Dm g k)
  | 0 => tidy_empty
  | k + 1 => by
    simp only [Dm]
    split
    · exact (Dm_tidy g k).put (k := .int .i64 k) trivial _
    · exact Dm_tidy g k
theorem key_ne {i j : Nat} (h : i ≠ j) : (Lit.int .i64 (i : Int)) ≠ Lit.int .i64 (j : Int) := by
  intro e; injection e with _ e; omega
theorem Dm_has (g : Nat → Int) (i : Nat) : ∀ k, Maps.has (Dm g k) (.int .i64 (i : Int)) = decide (i < k ∧ 0 < g i)
  | 0 => by simp [Dm, Maps.has]
  | k + 1 => by
    have ih := Dm_has g i k
    simp only [Dm]
    by_cases e : i = k
    · subst e
      split
      · rw [has_put_same (k := .int .i64 i) (Dm_tidy g i).isMap trivial]; simp; assumption
      · rw [ih]; simp; omega
    · split
      · rw [has_put_other (key_ne e), ih]; simp only [show (i < k + 1 ∧ 0 < g i) ↔ (i < k ∧ 0 < g i) from by omega]
      · rw [ih]; simp only [show (i < k + 1 ∧ 0 < g i) ↔ (i < k ∧ 0 < g i) from by omega]
theorem Dm_at (g : Nat → Int) (i : Nat) (z : DataW Unit) : ∀ k, (Dm g k).atKey (.int .i64 (i : Int)) z = if i < k ∧ 0 < g i then .lit (.int .i64 (g i)) else z
  | 0 => by simp [Dm, DataW.atKey]
  | k + 1 => by
    have ih := Dm_at g i z k
    simp only [Dm]
    by_cases e : i = k
    · subst e
      split
      · rw [atKey_put_same (k := .int .i64 i) (Dm_tidy g i).isMap trivial, if_pos ⟨by omega, by assumption⟩]
      · rw [ih, if_neg (by omega), if_neg (by omega)]
    · have : (i < k + 1 ∧ 0 < g i) ↔ (i < k ∧ 0 < g i) := by omega
      split
      · rw [atKey_put_other (key_ne e), ih]; simp only [this]
      · rw [ih]; simp only [this]
theorem Dm_size (g : Nat → Int) : ∀ k, Maps.size (Dm g k) = Pn g k
  | 0 => rfl
  | k + 1 => by
    simp only [Dm, Pn]
    split
    · rw [size_put (Dm_tidy g k), Dm_has, if_neg (by simp), Dm_size g k]
    · exact Dm_size g k
theorem Pn_le (g : Nat → Int) : ∀ k, Pn g k ≤ k
  | 0 => Nat.le_refl _
  | k + 1 => by have := Pn_le g k; simp only [Pn]; split <;> omega

theorem Dm_none (g : Nat → Int) : ∀ k, Pn g k = 0 → Dm g k = .map []
  | 0, _ => rfl
  | k + 1, h => by
    simp only [Pn] at h
    simp only [Dm]
    split at h
    · omega
    · rw [if_neg (by assumption)]; exact Dm_none g k h
theorem Dm_pos (g : Nat → Int) (k : Nat) (h : 0 < g k) : Dm g (k + 1) = (Dm g k).put (.int .i64 k) (.lit (.int .i64 (g k))) := by simp only [Dm]; rw [if_pos h]
theorem Dm_neg (g : Nat → Int) (k : Nat) (h : ¬ 0 < g k) : Dm g (k + 1) = Dm g k := by simp only [Dm]; rw [if_neg h]
theorem Pn_pos (g : Nat → Int) (k : Nat) (h : 0 < g k) : Pn g (k + 1) = Pn g k + 1 := by simp only [Pn]; rw [if_pos h]
theorem Pn_neg (g : Nat → Int) (k : Nat) (h : ¬ 0 < g k) : Pn g (k + 1) = Pn g k := by simp only [Pn]; rw [if_neg h]

def tri (a b c : Int) (i : Nat) : Int := match i with | 0 => a | 1 => b | _ => c

/-- 'v' is the base of the counts g. -/
def Base (W : World) (g : Nat → Int) (v : Value) : Prop :=
  (Pn g 3 = 0 ∧ v = .map none) ∨ (0 < Pn g 3 ∧ ∃ B, v = .map (some B) ∧ W.ownsMap Try.prog 44 (plainElem Try.prog 2) B 3 (Dm g 3))

theorem index3_0 (x y z : Value) (w : World) : (Instr.index 27 (.agg #[x, y, z]) (.int .i64 0)).run Try.prog w = .ok x w := by kernel_rfl
theorem index3_1 (x y z : Value) (w : World) : (Instr.index 27 (.agg #[x, y, z]) (.int .i64 1)).run Try.prog w = .ok y w := by kernel_rfl
theorem index3_2 (x y z : Value) (w : World) : (Instr.index 27 (.agg #[x, y, z]) (.int .i64 2)).run Try.prog w = .ok z w := by kernel_rfl
theorem index3 (a b c : Int) (k : Nat) (h : k < 3) (w : World) : (Instr.index 27 (.agg #[.int .i64 a, .int .i64 b, .int .i64 c]) (.int .i64 (k : Int))).run Try.prog w = .ok (.int .i64 (tri a b c k)) w := by
  match k, h with
  | 0, _ => exact index3_0 _ _ _ w
  | 1, _ => exact index3_1 _ _ _ w
  | 2, _ => exact index3_2 _ _ _ w
theorem key_of (k : Nat) (h : k < 3) : keyOf Try.prog 44 (.int .i64 (k : Int)) = some (.int .i64 (k : Int)) :=
  keyOf_int_mk Try.underlying44 (by simp [Lit.wf, IntKind.min, IntKind.max, IntKind.signed, IntKind.bits]; omega)

def RelB (W wr : World) (g : Nat → Int) (k : Nat) (v : Value) : Prop :=
  (Pn g k = 0 ∧ v = .map none ∧ wr = W) ∨ (0 < Pn g k ∧ v = .map (some W.heap.size) ∧ wr.ownsMap Try.prog 44 (plainElem Try.prog 2) W.heap.size k (Dm g k) ∧ Below W.heap.size W wr)

set_option maxHeartbeats 1000000 in
set_option maxRecDepth 100000 in
theorem base_any (B : Nat) (tc : Bool) (tk : Int) (uc : Bool) (uk mode wa rs a b c : Int) (W : World) (hB : Bud W B tc tk uc uk mode wa rs a b c)
    (wf : ∀ k, (Lit.int .i64 (tri a b c k)).wf = true) :
    Calls Try.prog 17 #[.pointer (some ⟨B, 0, none⟩)] W fun e w' => ∃ v, e = .returned v ∧ Base w' (tri a b c) v ∧ Below W.heap.size W w' := by
  have ca := hB.a
  have cb := hB.b
  have cc := hB.c
  have WF := hide wf
  clear hB wf
  go_enter Try.func17, Try.ntmps17
  go_wp2
  clear ca cb cc
  go_loopw [3, 11] (fun v i wr => ∃ k : Nat, k ≤ 3 ∧ i = .int .i64 k ∧ RelB W wr (tri a b c) k v) (fun _ i _ => 3 - (intOf i).toNat)
  case atStart => exact ⟨0, by decide, rfl, .inl ⟨rfl, rfl, rfl⟩⟩
  case round =>
    obtain ⟨k, hk, rfl, hR⟩ := hrel
    by_cases hlt : k < 3
    · have hix := index3 a b c k hlt
      have hkey := hide (key_of k hlt)
      have PE := hide (plainElem_int (H := Unit) Try.underlying2 (unhide WF k))
      by_cases hpos : 0 < tri a b c k
      · have HP := hide hpos
        rcases hR with ⟨p0, rfl, hw⟩ | ⟨p0, rfl, hown, hbel⟩
        · obtain rfl := hw.symm
          clear hw
          have he := fun w => run_eql_map_nil (P := Try.prog) w 40 44 2 none Try.underlying40
          have hmm := @run_makeMap Try.prog
          have own0 := hide (World.ownsMap_made W Try.prog 44 (plainElem (H := Unit) Try.prog 2))
          go_wp2_with (first
            | (at_mapUpdate; refine wpList_mapUpdate_own _ rfl _ _ _ 40 rfl 44 2 law Try.underlying40 _ W.heap.size 0 _ rfl (unhide own0) (by decide) _ _ _ rfl rfl (unhide hkey) _ [] (unhide PE) ?_; intro w1 hown1 hgrow1)
            | go_in)
          go_roundw
          case rel =>
            refine ⟨k + 1, by omega, by go_num, .inr ⟨by rw [Pn_pos _ _ (unhide HP)]; omega, rfl, ?_, ((Below.refl _ _).alloc (Nat.le_refl _) _).grown hgrow1 (by simp) (fun j hj => by cases hj; exact Nat.le_refl _)⟩⟩
            rw [Dm_pos _ _ (unhide HP), Dm_none _ _ p0]
            exact hown1.mono (by omega)
          case measure => simp [intOf]; omega
        · have he := fun w => run_eql_map_nil (P := Try.prog) w 40 44 2 (some W.heap.size) Try.underlying40
          have HO := hide hown
          have HB := hide hbel
          clear hown hbel
          go_wp2_with (first
            | (at_mapUpdate; refine wpList_mapUpdate_own _ rfl _ _ _ 40 rfl 44 2 law Try.underlying40 _ W.heap.size k _ rfl (unhide HO) (by unfold maxLen; omega) _ _ _ rfl rfl (unhide hkey) _ [] (unhide PE) ?_; intro w1 hown1 hgrow1)
            | go_in)
          go_roundw
          case rel =>
            refine ⟨k + 1, by omega, by go_num, .inr ⟨by rw [Pn_pos _ _ (unhide HP)]; omega, rfl, ?_, (unhide HB).grown hgrow1 (unhide HB).size (fun j hj => by cases hj; exact Nat.le_refl _)⟩⟩
            rw [Dm_pos _ _ (unhide HP)]
            exact hown1
          case measure => simp [intOf]; omega
      · have HP := hide hpos
        have HR := hide hR
        clear hR
        go_wp2_with go_in
        go_roundw
        case rel =>
          refine ⟨k + 1, by omega, by go_num, ?_⟩
          rcases unhide HR with ⟨p0, h1, h2⟩ | ⟨p0, h1, h2, h3⟩
          · exact .inl ⟨by rw [Pn_neg _ _ (unhide HP)]; exact p0, h1, h2⟩
          · exact .inr ⟨by rw [Pn_neg _ _ (unhide HP)]; exact p0, h1, by rw [Dm_neg _ _ (unhide HP)]; exact h2.mono (by omega), h3⟩
        case measure => simp [intOf]; omega
    · have : k = 3 := by omega
      subst this
      have HR := hide hR
      clear hR
      go_wp2_with go_in
      go_ret
      rcases unhide HR with ⟨p0, h1, h2⟩ | ⟨p0, h1, h2, h3⟩
      · exact ⟨_, rfl, .inl ⟨p0, h1⟩, by rw [h2]; exact Below.refl _ _⟩
      · exact ⟨_, rfl, .inr ⟨p0, _, h1, h2⟩, h3⟩

theorem zz_base (B : Nat) (tc : Bool) (tk : Int) (uc : Bool) (uk mode wa rs a b c : Int) (W : World) (hB : Bud W B tc tk uc uk mode wa rs a b c)
    (wf : ∀ k, (Lit.int .i64 (tri a b c k)).wf = true) :
    Calls Try.prog 12 #[.pointer (some ⟨B, 0, none⟩)] W fun e w' => ∃ v, e = .returned v ∧ Base w' (tri a b c) v ∧ Below W.heap.size W w' := by
  have H := hide (base_any B tc tk uc uk mode wa rs a b c W hB wf)
  clear hB wf
  go_enter Try.func12, Try.ntmps12
  go_wp2_with (go_at_call 17; refine (unhide H).mono ?_; rintro e w' ⟨v, rfl, hb, hl⟩; have HB := hide hb; have HL := hide hl; clear hb hl)
  go_ret
  exact ⟨_, rfl, unhide HB, unhide HL⟩
end Go.Proofs.Qxb6602634a

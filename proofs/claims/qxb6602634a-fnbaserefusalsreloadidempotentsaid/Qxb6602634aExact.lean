/-
  'b1RefusalsMatch' AND THE WALK OF 'FnBaseRefusalsExact'. By an AI agent.
-/
import Derived.Test.Qxb6602634aBase
namespace Go.Proofs.Qxb6602634a
open Go.RowKit Go.Maps
set_option linter.unusedVariables false

theorem cells3 (W : World) (a b c : Int) (k : Nat) (h : k < 3) : (W.alloc (.cells #[.int .i64 a, .int .i64 b, .int .i64 c] 27)).cell? ⟨W.heap.size, k, none⟩ = some (.int .i64 (tri a b c k)) := by
  match k, h with
  | 0, _ => simp [go_sem, tri]
  | 1, _ => simp [go_sem, tri]
  | 2, _ => simp [go_sem, tri]

/-- what a look-up of key k in the base of g answers -/
theorem look_val {g : Nat → Int} {k : Nat} {c : Int} (hk : k < 3) (h : (Dm g 3).atKey (.int .i64 (k : Int)) (.lit (.int .i64 0)) = .lit (.int .i64 c)) : c = if 0 < g k then g k else 0 := by
  rw [Dm_at] at h
  by_cases hp : 0 < g k
  · rw [if_pos ⟨hk, hp⟩] at h; rw [if_pos hp]; injection h with h; injection h with _ h; exact h.symm
  · rw [if_neg (by omega)] at h; rw [if_neg hp]; injection h with h; injection h with _ h; exact h.symm
theorem look_has {g : Nat → Int} {k : Nat} (hk : k < 3) : Maps.has (Dm g 3) (.int .i64 (k : Int)) = decide (0 < g k) := by
  rw [Dm_has]; simp [hk]

set_option maxHeartbeats 1000000 in
set_option maxRecDepth 100000 in
theorem match_own (B : Nat) (a b c : Int) (W : World) (p0 : 0 < Pn (tri a b c) 3) (hown : W.ownsMap Try.prog 44 (plainElem Try.prog 2) B 3 (Dm (tri a b c) 3)) :
    Calls Try.prog 13 #[.map (some B), .agg #[.int .i64 a, .int .i64 b, .int .i64 c]] W fun e w' => e = .returned (.bool true) ∧ Below W.heap.size W w' := by
  have HC := hide (cells3 W a b c)
  have HO := hide (hown.alloc (.cells #[.int .i64 a, .int .i64 b, .int .i64 c] 27))
  have HB := hide ((Below.refl W.heap.size W).alloc (Nat.le_refl _) (.cells #[.int .i64 a, .int .i64 b, .int .i64 c] 27))
  have he := fun w => run_eql_map_nil (P := Try.prog) w 40 44 2 (some B) Try.underlying40
  clear hown
  go_enter Try.func13, Try.ntmps13
  go_wp2_with fail
  generalize W.alloc (.cells #[.int .i64 a, .int .i64 b, .int .i64 c] 27) = W1 at *
  go_loop [5, 6] (fun p i => ∃ k : Nat, k ≤ 3 ∧ i = .int .i64 k ∧ p = .int .i64 (Pn (tri a b c) k)) (fun _ i => 3 - (intOf i).toNat)
  case atStart => exact ⟨0, by decide, rfl, rfl⟩
  case round =>
    obtain ⟨k, hk, rfl, rfl⟩ := hrel
    have pl := Pn_le (tri a b c) k
    by_cases hlt : k < 3
    · have hc := unhide HC k hlt
      have hkey := hide (key_of k hlt)
      have hh := look_has (g := tri a b c) hlt
      by_cases hpos : 0 < tri a b c k
      · have HP := hide hpos
        rw [decide_eq_true hpos] at hh
        go_wp2_with (first
          | (at_lookup; refine wpList_lookup_own_ok_int _ rfl _ _ 40 rfl 44 2 .i64 law Try.underlying40 Try.underlying2 (zero2 _) B 3 _ rfl (unhide HO) _ _ rfl (unhide hkey) ?_; intro c' hat hwc; have hcv := look_val hlt hat; rw [if_pos (unhide HP)] at hcv; subst hcv; clear hat hwc)
          | go_in)
        go_round
        case rel => exact ⟨k + 1, by omega, by go_num, by rw [Pn_pos _ _ (unhide HP)]; go_num⟩
        case measure => simp [intOf]; omega
      · have HP := hide hpos
        rw [decide_eq_false hpos] at hh
        go_wp2_with (first
          | (at_lookup; refine wpList_lookup_own_ok_int _ rfl _ _ 40 rfl 44 2 .i64 law Try.underlying40 Try.underlying2 (zero2 _) B 3 _ rfl (unhide HO) _ _ rfl (unhide hkey) ?_; intro c' hat hwc; clear hat hwc)
          | go_in)
        go_round
        case rel => exact ⟨k + 1, by omega, by go_num, by rw [Pn_neg _ _ (unhide HP)]⟩
        case measure => simp [intOf]; omega
    · have : k = 3 := by omega
      subst this
      have hs := Dm_size (tri a b c) 3
      have hz : (((Pn (tri a b c) 3 : Nat) : Int) == 0) = false := beq_eq_false_iff_ne.2 (by omega)
      go_wp2_with (first
        | (at_len; refine wpList_len_own _ rfl _ 40 rfl 44 2 Try.underlying40 _ B 3 _ rfl (unhide HO) ?_)
        | go_in)
      go_ret
      exact ⟨rfl, unhide HB⟩

theorem Pn_mono (g : Nat → Int) (k : Nat) (h : Pn g 3 = 0) (hk : k < 3) : ¬ 0 < g k := by
  have h0 : Pn g 3 = Pn g 2 + (if 0 < g 2 then 1 else 0) := by simp only [Pn]; split <;> omega
  have h1 : Pn g 2 = Pn g 1 + (if 0 < g 1 then 1 else 0) := by simp only [Pn]; split <;> omega
  have h2 : Pn g 1 = (if 0 < g 0 then 1 else 0) := by simp only [Pn]
  match k, hk with
  | 0, _ => intro hp; rw [if_pos hp] at h2; omega
  | 1, _ => intro hp; rw [if_pos hp] at h1; omega
  | 2, _ => intro hp; rw [if_pos hp] at h0; omega

set_option maxHeartbeats 1000000 in
set_option maxRecDepth 100000 in
theorem match_nil (a b c : Int) (W : World) (p0 : Pn (tri a b c) 3 = 0) :
    Calls Try.prog 13 #[.map none, .agg #[.int .i64 a, .int .i64 b, .int .i64 c]] W fun e w' => e = .returned (.bool true) ∧ Below W.heap.size W w' := by
  have HC := hide (cells3 W a b c)
  have HB := hide ((Below.refl W.heap.size W).alloc (Nat.le_refl _) (.cells #[.int .i64 a, .int .i64 b, .int .i64 c] 27))
  have he := fun w => run_eql_map_nil (P := Try.prog) w 40 44 2 none Try.underlying40
  have hln := fun w ty => len_nil (P := Try.prog) (w := w) Try.underlying40 ty
  have P0 := hide (Pn_mono (tri a b c) · p0)
  clear p0
  go_enter Try.func13, Try.ntmps13
  go_wp2_with fail
  generalize W.alloc (.cells #[.int .i64 a, .int .i64 b, .int .i64 c] 27) = W1 at *
  go_loop [5, 6] (fun p i => ∃ k : Nat, k ≤ 3 ∧ i = .int .i64 k ∧ p = .int .i64 0) (fun _ i => 3 - (intOf i).toNat)
  case atStart => exact ⟨0, by decide, rfl, rfl⟩
  case round =>
    obtain ⟨k, hk, rfl, rfl⟩ := hrel
    by_cases hlt : k < 3
    · have hc := unhide HC k hlt
      have hlk := fun w => look_nil (P := Try.prog) (w := w) true law Try.underlying40 (zero2 w) (key_of k hlt)
      have hneg := unhide P0 k hlt
      go_wp2
      go_round
      case rel => exact ⟨k + 1, by omega, by go_num, rfl⟩
      case measure => simp [intOf]; omega
    · go_wp2
      go_ret
      exact ⟨rfl, unhide HB⟩

theorem match_any (a b c : Int) (v : Value) (W : World) (hv : Base W (tri a b c) v) :
    Calls Try.prog 13 #[v, .agg #[.int .i64 a, .int .i64 b, .int .i64 c]] W fun e w' => e = .returned (.bool true) ∧ Below W.heap.size W w' := by
  rcases hv with ⟨p0, rfl⟩ | ⟨p0, B, rfl, hown⟩
  · exact match_nil a b c W p0
  · exact match_own B a b c W p0 hown

theorem Base.size {W : World} {g : Nat → Int} {v : Value} (h : Base W g v) : v = .map none ∨ ∃ B, v = .map (some B) ∧ B < W.heap.size := by
  rcases h with ⟨_, rfl⟩ | ⟨_, B, rfl, ho⟩
  · exact .inl rfl
  · exact .inr ⟨B, rfl, ho.lt⟩

set_option maxHeartbeats 1000000 in
set_option maxRecDepth 100000 in
/-- THE LAW. -/
theorem exact_any (a b c : Int) (wf : ∀ k, (Lit.int .i64 (tri a b c k)).wf = true) (w : World) :
    Calls Try.prog 5 #[.agg #[.int .i64 a, .int .i64 b, .int .i64 c]] w fun e w' => e = .returned (.bool true) ∧ Below w.heap.size w w' := by
  have WF := hide wf
  have HC := hide (cells3 w a b c)
  have HB := hide ((Below.refl w.heap.size w).alloc (Nat.le_refl _) (.cells #[.int .i64 a, .int .i64 b, .int .i64 c] 27))
  have HS : w.heap.size < (w.alloc (.cells #[.int .i64 a, .int .i64 b, .int .i64 c] 27)).heap.size := by simp
  clear wf
  go_enter Try.func5, Try.ntmps5
  go_wp2_with fail
  generalize w.alloc (.cells #[.int .i64 a, .int .i64 b, .int .i64 c] 27) = W0 at *
  refine (budget_any false 0 false 0 0 800000000 (-1) a b c W0).mono ?_
  rintro e W1 ⟨rfl, hbud, hb1⟩
  have h1 := hide hbud
  have h2 := hide hb1
  clear hbud hb1
  go_wp2_with fail
  refine (zz_base _ _ _ _ _ _ _ _ _ _ _ W1 (unhide h1) (unhide WF)).mono ?_
  rintro e W2 ⟨v, rfl, hbase, hb2⟩
  have h3 := hide hbase
  have h4 := hide hb2
  clear hbase hb2
  have up : ∀ k, k < 3 → W2.cell? ⟨w.heap.size, k, none⟩ = some (.int .i64 (tri a b c k)) := fun k hk => by
    rw [(unhide h4).cell (by exact Nat.lt_of_lt_of_le HS (unhide h2).size), (unhide h2).cell (by exact HS)]
    exact unhide HC k hk
  have c0 : W2.cell? ⟨w.heap.size, 0, none⟩ = some (.int .i64 a) := up 0 (by decide)
  have c1 : W2.cell? ⟨w.heap.size, 1, none⟩ = some (.int .i64 b) := up 1 (by decide)
  have c2 : W2.cell? ⟨w.heap.size, 2, none⟩ = some (.int .i64 c) := up 2 (by decide)
  clear up
  go_wp2_with fail
  refine (match_any a b c v W2 (unhide h3)).mono ?_
  rintro e W3 ⟨rfl, hb3⟩
  have h5 := hide hb3
  clear hb3 c0 c1 c2
  go_wp2_with fail
  go_ret
  have e1 := (unhide HB).size
  have e2 := (unhide h2).size
  have e3 := (unhide h4).size
  exact ⟨rfl, (((unhide HB).trans ((unhide h2).mono (by omega))).trans ((unhide h4).mono (by omega))).trans ((unhide h5).mono (by omega))⟩
end Go.Proofs.Qxb6602634a

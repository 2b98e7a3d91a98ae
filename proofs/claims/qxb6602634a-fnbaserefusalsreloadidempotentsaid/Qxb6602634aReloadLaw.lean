/-
  THE WALK OF 'FnBaseRefusalsReloadIdempotent'. By an AI agent.
-/
import Derived.Test.Qxb6602634aReload
namespace Go.Proofs.Qxb6602634a
open Go.RowKit Go.Maps
set_option linter.unusedVariables false

def bk (g : Nat → Int) (k j : Nat) : Int := if j < k then pos (g j) else 0
theorem tri_pos (a b c : Int) (i : Nat) : tri (pos a) (pos b) (pos c) i = pos (tri a b c i) := by
  match i with
  | 0 => rfl
  | 1 => rfl
  | _ + 2 => rfl
theorem wf_pos {x : Int} (h : (Lit.int .i64 x).wf = true) : (Lit.int .i64 (pos x)).wf = true := by
  unfold pos
  split
  · exact h
  · decide

/-- the three counts that are loaded back, in their block -/
structure Back (W2 wr : World) (g : Nat → Int) (k : Nat) : Prop where
  bel : Below W2.heap.size W2 wr
  cell : ∀ j, j < 3 → wr.cell? ⟨W2.heap.size, j, none⟩ = some (.int .i64 (bk g k j))
  fr : ∀ j, j < 3 → wr.frozen? ⟨W2.heap.size, j, none⟩ = false
theorem Back.start (W2 : World) (g : Nat → Int) : Back W2 (W2.alloc (.cells #[.int .i64 0, .int .i64 0, .int .i64 0] 27)) g 0 where
  bel := (Below.refl _ _).alloc (Nat.le_refl _) _
  cell j hj := by
    unfold bk
    rw [if_neg (by omega), cells3 W2 0 0 0 j hj]
    match j, hj with
    | 0, _ => rfl
    | 1, _ => rfl
    | 2, _ => rfl
  fr j hj := World.frozen?_alloc_at _ _ _ _ rfl
theorem Back.step {W2 wr : World} {g : Nat → Int} {k : Nat} (h : Back W2 wr g k) (hk : k < 3) : Back W2 (wr.setCell ⟨W2.heap.size, k, none⟩ (.int .i64 (pos (g k)))) g (k + 1) where
  bel := h.bel.setCell (Nat.le_refl _) _
  cell j hj := by
    unfold bk
    by_cases e : j = k
    · subst e
      rw [World.cell?_setCell_same wr _ _ (h.cell j hj), if_pos (by omega)]
    · rw [World.cell?_setCell_other wr _ _ _ (by intro hh; injection hh; omega), h.cell j hj]
      unfold bk
      by_cases hl : j < k
      · rw [if_pos hl, if_pos (by omega)]
      · rw [if_neg hl, if_neg (by omega)]
  fr j hj := by rw [World.frozen?_setCell]; exact h.fr j hj

set_option maxHeartbeats 2000000 in
set_option maxRecDepth 100000 in
theorem reload_any (a b c : Int) (wf : ∀ k, (Lit.int .i64 (tri a b c k)).wf = true) (w : World) :
    Calls Try.prog 6 #[.agg #[.int .i64 a, .int .i64 b, .int .i64 c]] w fun e w' => e = .returned (.bool true) ∧ Below w.heap.size w w' := by
  have WF := hide wf
  have HC := hide (cells3 w a b c)
  have HB := hide ((Below.refl w.heap.size w).alloc (Nat.le_refl _) (.cells #[.int .i64 a, .int .i64 b, .int .i64 c] 27))
  have HS : w.heap.size < (w.alloc (.cells #[.int .i64 a, .int .i64 b, .int .i64 c] 27)).heap.size := by simp
  clear wf
  go_enter Try.func6, Try.ntmps6
  go_wp2_with fail
  generalize w.alloc (.cells #[.int .i64 a, .int .i64 b, .int .i64 c] 27) = W0 at *
  refine (budget_any false 0 false 0 0 800000000 (-1) a b c W0).mono ?_
  rintro e W1 ⟨rfl, hbud, hb1⟩
  have h1 := hide hbud
  have h2 := hide hb1
  clear hbud hb1
  go_wp2_with fail
  refine (zz_base _ _ _ _ _ _ _ _ _ _ _ W1 (unhide h1) (unhide WF)).mono ?_
  rintro e W2 ⟨v, rfl, hbase, hb2⟩
  obtain ⟨r, rfl, hr⟩ := hbase.ref
  have BR := hide hr
  have up : ∀ k, k < 3 → W2.cell? ⟨w.heap.size, k, none⟩ = some (.int .i64 (tri a b c k)) := fun k hk => by
    rw [hb2.cell (by exact Nat.lt_of_lt_of_le HS (unhide h2).size), (unhide h2).cell (by exact HS)]
    exact unhide HC k hk
  have UP := hide up
  have B2 : Hid (Below w.heap.size w W2) := by
    have e1 := (unhide HB).size
    have e2 := (unhide h2).size
    exact ((unhide HB).trans ((unhide h2).mono (by omega))).trans (hb2.mono (by omega))
  have HS2 : w.heap.size < W2.heap.size := by have e2 := (unhide h2).size; have e3 := hb2.size; omega
  clear hbase hb2 hr up h1 h2 HB HC HS
  have BK := hide (Back.start W2 (tri a b c))
  go_wp2_with fail
  generalize W2.alloc (.cells #[.int .i64 0, .int .i64 0, .int .i64 0] 27) = W3 at *
  go_loopw [6] (fun i wr => ∃ k : Nat, k ≤ 3 ∧ i = .int .i64 k ∧ Back W2 wr (tri a b c) k) (fun i _ => 3 - (intOf i).toNat)
  case atStart => exact ⟨0, by decide, rfl, unhide BK⟩
  case round =>
    clear BK
    obtain ⟨k, hk, rfl, hB⟩ := hrel
    by_cases hlt : k < 3
    · have lk := ((unhide BR).below hB.bel).look k hlt
      have cB := hB.cell k hlt
      have fB := hB.fr k hlt
      have HBk := hide hB
      clear hB
      go_wp2
      go_roundw
      case rel => exact ⟨k + 1, by omega, by go_num, (unhide HBk).step hlt⟩
      case measure => simp [intOf]; omega
    · have : k = 3 := by omega
      subst this
      have HBk := hide hB
      clear hB
      go_wp2_with fail
      go_loopw [7] (fun i wx => ∃ k : Nat, k ≤ 3 ∧ i = .int .i64 k ∧ ∃ nq, wx = wr.drewN nq) (fun i _ => 3 - (intOf i).toNat)
      case atStart => exact ⟨0, by decide, rfl, 0, rfl⟩
      case round =>
        obtain ⟨k, hk, rfl, nq, rfl⟩ := hrel
        by_cases hlt : k < 3
        · have c1 := (unhide HBk).cell k hlt
          rw [bk, if_pos hlt] at c1
          have c2 : wr.cell? ⟨w.heap.size, k, none⟩ = some (.int .i64 (tri a b c k)) := ((unhide HBk).bel.cell (by exact HS2)).trans (unhide UP k hlt)
          by_cases hp : 0 < tri a b c k
          · rw [pos, if_pos hp] at c1
            go_wp2_with fail
            go_quiet (fail)
            go_wp2
            go_roundw
            case rel => exact ⟨k + 1, by omega, by go_num, _, rfl⟩
            case measure => simp [intOf]; omega
          · rw [pos, if_neg hp] at c1
            go_wp2
            go_roundw
            case rel => exact ⟨k + 1, by omega, by go_num, _, rfl⟩
            case measure => simp [intOf]; omega
        · have c0 : wr.cell? ⟨W2.heap.size, 0, none⟩ = some (.int .i64 (pos a)) := (unhide HBk).cell 0 (by decide)
          have c1 : wr.cell? ⟨W2.heap.size, 1, none⟩ = some (.int .i64 (pos b)) := (unhide HBk).cell 1 (by decide)
          have c2 : wr.cell? ⟨W2.heap.size, 2, none⟩ = some (.int .i64 (pos c)) := (unhide HBk).cell 2 (by decide)
          go_wp2_with fail
          clear c0 c1 c2
          have B4 := hide (below_drewN (unhide HBk).bel nq)
          clear HBk
          generalize wr.drewN nq = W4 at *
          refine (budget_any false 0 false 0 0 800000000 (-1) (pos a) (pos b) (pos c) W4).mono ?_
          rintro e W5 ⟨rfl, hbud, hb5⟩
          have h1 := hide hbud
          have h2 := hide hb5
          clear hbud hb5
          go_wp2_with fail
          refine (zz_base _ _ _ _ _ _ _ _ _ _ _ W5 (unhide h1) (fun k => by rw [tri_pos]; exact wf_pos (unhide WF k))).mono ?_
          rintro e W6 ⟨v2, rfl, hbase, hb6⟩
          obtain ⟨r2, rfl, hr2⟩ := hbase.ref
          have BR2 := hide (hr2.reload (tri_pos a b c))
          have h3 := hide hb6
          clear hbase hr2 hb6
          have e1 := (unhide B4).size
          have e2 := (unhide h2).size
          have e3 := (unhide h3).size
          have B6 := hide (((unhide B4).trans ((unhide h2).mono e1)).trans ((unhide h3).mono (by omega)))
          have SM := hide (same_any (tri a b c) r r2 W6 ((unhide BR).below (unhide B6)) (unhide BR2))
          go_wp2_with fail
          refine (unhide SM).mono ?_
          rintro e w' ⟨rfl, hsame⟩
          obtain rfl := hsame.symm
          clear hsame
          go_wp2_with fail
          go_ret
          exact ⟨rfl, (unhide B2).trans ((unhide B6).mono (by omega))⟩
end Go.Proofs.Qxb6602634a

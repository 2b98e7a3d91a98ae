/-
  THE WALK OF 'FnCapsHandsOutCopies'. By an AI agent.
-/
import Derived.Test.Qxb6602634aPtrEq
namespace Go.Proofs.Qxb6602634a
open Go.RowKit
set_option linter.unusedVariables false
attribute [local go_sem] run_store_float

set_option maxHeartbeats 4000000 in
set_option maxRecDepth 100000 in
theorem copies (tc : Bool) (tk : Int) (uc : Bool) (uk mode wa rs : Int) (w : World) :
    Calls Try.prog 4 #[.bool tc, .int .i64 tk, .bool uc, .int .i64 uk, .int .i64 mode, .int .i64 wa, .int .i64 rs] w fun e w' => e = .returned (.bool true) ∧ Below w.heap.size w w' := by
  obtain ⟨x, s, hx, ho, hs⟩ := div_all wa
  have HX := hide hx
  have HO := hide ho
  have hs := fun w => run_float_arith (P := Try.prog) w .add 36 .f64 _ _ _ hs
  obtain ⟨wf, hwf⟩ : ∃ wf, (wa != 800000000) = wf := ⟨_, rfl⟩
  obtain ⟨rf, hrf⟩ : ∃ rf, (rs != -1) = rf := ⟨_, rfl⟩
  have HWF := hide hwf
  have HRF := hide hrf
  clear hx ho hwf hrf
  go_enter Try.func4, Try.ntmps4
  go_wp2_with fail
  refine (budget_any tc tk uc uk mode wa rs 0 0 0 w).mono ?_
  rintro e W1 ⟨rfl, hbud, hb1⟩
  have B1 := hide hbud
  have L1 := hide hb1
  clear hbud hb1
  go_wp2_with fail
  refine (zz_caps _ tc tk uc uk mode wa rs 0 0 0 x W1 wf rf (unhide B1) (unhide HWF) (unhide HRF) (unhide HX)).mono ?_
  rintro e W2 ⟨rfl, hco⟩
  have CO := hide hco
  clear hco
  unfold capsVal
  have LV := hide (live_of (unhide B1) (unhide CO))
  have LB := hide (((unhide L1).trans ((unhide CO).bel.mono (unhide L1).size)).alloc (Nat.le_trans (unhide L1).size (unhide CO).bel.size) (.cells #[.pointer (ptr tc (W1.heap.size + 3)), .pointer (ptr uc (W1.heap.size + 3 + tc.toNat)), .int .i64 mode, .pointer (ptr wf (W1.heap.size + 3 + tc.toNat + uc.toNat)), .pointer (ptr rf (W1.heap.size + 3 + tc.toNat + uc.toNat + wf.toNat))] 33))
  have SM : Hid (w.heap.size ≤ W1.heap.size + 3) := hide (Nat.le_trans (unhide L1).size (by omega))
  clear CO L1 B1
  have z0 := ptr_some tc (W1.heap.size + 3)
  have z1 := ptr_some uc (W1.heap.size + 3 + tc.toNat)
  have z3 := ptr_some wf (W1.heap.size + 3 + tc.toNat + uc.toNat)
  have z4 := ptr_some rf (W1.heap.size + 3 + tc.toNat + uc.toNat + wf.toNat)
  go_upto_if 31 with fail
  generalize hV0 : W2.alloc _ = V0 at LV LB ⊢
  generalize hm1 : W2.heap.size = m1 at LV ⊢
  generalize hn : W1.heap.size + 3 = n at LV SM z0 z1 z3 z4 ⊢
  clear hV0 hm1 hn
  go_cut [] from 18 (fun wx => Live wx m1 (w.heap.size + 1) n tc uc wf rf tk uk mode wa rs x ∧ Below w.heap.size w wx)
  case first =>
    cases tc
    · go_wp2_with fail
      go_meet
      case rel => exact ⟨unhide LV, unhide LB⟩
    · obtain ⟨⟨z, hz⟩, hf, hp⟩ := (unhide LV).g0 rfl
      have q0 := (unhide LV).f0
      rw [ptr_true] at q0 ⊢
      have ST : Hid (∀ z', Live (V0.setCell ⟨n, 0, none⟩ (.int .i64 z')) m1 (w.heap.size + 1) n true uc wf rf tk uk mode wa rs x) := hide (fun z' => (unhide LV).set _ _ _ (unhide LV).bn (by have := (unhide LV).top; simp at this; omega) (fun _ _ => ⟨_, rfl⟩) (fun _ h => by simp at h) (fun _ => .inr ⟨by simp; omega, rfl⟩) (fun _ h => by simp at h; omega))
      go_wp2_with fail
      go_region
      go_wp2_with fail
      go_meet
      case rel => exact ⟨(unhide ST _).drew, ((unhide LB).setCell (unhide SM) _).drew⟩
  case rest =>
  clear LV LB
  obtain ⟨hl, hb⟩ := hcut
  have LV := hide hl
  have LB := hide hb
  have q1 := hl.f1
  clear hl hb
  go_upto_if 42 with fail
  clear q1
  go_cut [] from 18 (fun wx => Live wx m1 (w.heap.size + 1) n tc uc wf rf tk uk mode wa rs x ∧ Below w.heap.size w wx)
  case first =>
    cases uc
    · go_wp2_with fail
      go_meet
      case rel => exact ⟨unhide LV, unhide LB⟩
    · obtain ⟨⟨z, hz⟩, hf, hp⟩ := (unhide LV).g1 rfl
      have q1 := (unhide LV).f1
      rw [ptr_true] at q1 ⊢
      have ST : Hid (∀ z', Live (wc.setCell ⟨n + tc.toNat, 0, none⟩ (.int .i64 z')) m1 (w.heap.size + 1) n tc true wf rf tk uk mode wa rs x) := hide (fun z' => (unhide LV).set _ _ _ (Nat.lt_of_lt_of_le (unhide LV).bn (by omega)) (by have := (unhide LV).top; simp at this; omega) (fun h h' => by simp [h] at h') (fun _ _ => ⟨_, rfl⟩) (fun _ => .inr ⟨by simp, rfl⟩) (fun _ h => by simp at h; omega))
      go_wp2_with fail
      go_region
      go_wp2_with fail
      go_meet
      case rel => exact ⟨(unhide ST _).drew, ((unhide LB).setCell (Nat.le_trans (unhide SM) (by simp)) _).drew⟩
  case rest =>
  clear LV LB
  obtain ⟨hl, hb⟩ := hcut
  have LV := hide hl
  have LB := hide hb
  have q3 := hl.f3
  clear hl hb
  go_upto_if 53 with fail
  clear q3
  go_cut [] from 18 (fun wx => (∃ fx, Live wx m1 (w.heap.size + 1) n tc uc wf rf tk uk mode wa rs fx) ∧ Below w.heap.size w wx)
  case first =>
    cases wf
    · go_wp2_with fail
      go_meet
      case rel => exact ⟨⟨_, unhide LV⟩, unhide LB⟩
    · obtain ⟨hz, hf, hp⟩ := (unhide LV).g3 rfl
      have q3 := (unhide LV).f3
      rw [ptr_true] at q3 ⊢
      have ST : Hid (Live (wc.setCell ⟨n + tc.toNat + uc.toNat, 0, none⟩ (.float .f64 s)) m1 (w.heap.size + 1) n tc uc true rf tk uk mode wa rs s) := hide ((unhide LV).set _ _ _ (Nat.lt_of_lt_of_le (unhide LV).bn (by omega)) (by have := (unhide LV).top; simp at this; omega) (fun h h' => by simp [h] at h'; omega) (fun h h' => by simp [h] at h') (fun _ => .inl ⟨rfl, rfl⟩) (fun _ h => by simp at h))
      go_wp2_with fail
      go_region
      go_wp2_with fail
      go_meet
      case rel => exact ⟨⟨_, (unhide ST).drew⟩, ((unhide LB).setCell (Nat.le_trans (unhide SM) (by simp; omega)) _).drew⟩
  case rest =>
  clear LV LB
  obtain ⟨⟨fx, hl⟩, hb⟩ := hcut
  have LV := hide hl
  have LB := hide hb
  have q4 := hl.f4
  clear hl hb
  go_upto_if 64 with fail
  clear q4
  go_cut [] from 18 (fun wx => Live wx m1 (w.heap.size + 1) n tc uc wf rf tk uk mode wa rs fx ∧ Below w.heap.size w wx)
  case first =>
    cases rf
    · go_wp2_with fail
      go_meet
      case rel => exact ⟨unhide LV, unhide LB⟩
    · obtain ⟨⟨z, hz⟩, hf, hp⟩ := (unhide LV).g4 rfl
      have q4 := (unhide LV).f4
      rw [ptr_true] at q4 ⊢
      have ST : Hid (∀ z', Live (wc.setCell ⟨n + tc.toNat + uc.toNat + wf.toNat, 0, none⟩ (.int .i64 z')) m1 (w.heap.size + 1) n tc uc wf true tk uk mode wa rs fx) := hide (fun z' => (unhide LV).set _ _ _ (Nat.lt_of_lt_of_le (unhide LV).bn (by omega)) (by have := (unhide LV).top; simp at this; omega) (fun h h' => by simp [h] at h'; omega) (fun h h' => by simp [h] at h'; omega) (fun h => .inr ⟨by simp [h], rfl⟩) (fun _ _ => ⟨_, rfl⟩))
      go_wp2_with fail
      go_region
      go_wp2_with fail
      go_meet
      case rel => exact ⟨(unhide ST _).drew, ((unhide LB).setCell (Nat.le_trans (unhide SM) (by simp; omega)) _).drew⟩
  case rest =>
  clear LV LB
  obtain ⟨hl, hb⟩ := hcut
  have LV := hide hl
  have LB := hide hb
  have hsz := hl.lt
  clear hl hb
  go_wp2_with fail
  refine (zz_caps _ tc tk uc uk mode wa rs 0 0 0 x wc wf rf (unhide LV).bud (unhide HWF) (unhide HRF) (unhide HX)).mono ?_
  rintro e W5 ⟨rfl, hco⟩
  have CO := hide hco
  clear hco
  unfold capsVal
  go_wp2_with fail
  have hn1 : (wa == 800000000) = !wf := by have := unhide HWF; revert this; cases wf <;> simp [bne]
  have hn2 : (rs == -1) = !rf := by have := unhide HRF; revert this; cases rf <;> simp [bne]
  refine (match_all tc uc wf rf tk uk mode wa rs (wc.heap.size + 3) (wc.heap.size + 3 + tc.toNat) (wc.heap.size + 3 + tc.toNat + uc.toNat) (wc.heap.size + 3 + tc.toNat + uc.toNat + wf.toNat) x _
    (fun hc => ⟨by have := ((unhide CO).h0 hc).lt; simp; omega, (World.cell?_alloc_past _ _ _ ((unhide CO).h0 hc).lt).trans ((unhide CO).c0 hc).1⟩)
    (fun hc => ⟨by have := ((unhide CO).h1 hc).lt; simp; omega, (World.cell?_alloc_past _ _ _ ((unhide CO).h1 hc).lt).trans ((unhide CO).c1 hc).1⟩)
    (fun hc => ⟨by have := ((unhide CO).h3 hc).lt; simp; omega, (World.cell?_alloc_past _ _ _ ((unhide CO).h3 hc).lt).trans ((unhide CO).c3 hc).1⟩)
    (fun hc => ⟨by have := ((unhide CO).h4 hc).lt; simp; omega, (World.cell?_alloc_past _ _ _ ((unhide CO).h4 hc).lt).trans ((unhide CO).c4 hc).1⟩)
    hn1 hn2 (unhide HX) (unhide HO) (fun hc => by
      subst hc
      have : wa = 800000000 := by simpa using hn1
      subst this
      exact div_default x (unhide HX))).mono ?_
  clear hn1 hn2
  rintro e W7 ⟨rfl, hb7⟩
  have L7 := hide hb7
  clear hb7
  have hsz5 := (unhide CO).bel.size
  have D : Hid (Below wc.heap.size wc W7) := hide (((unhide CO).bel.alloc hsz5 _).trans ((unhide L7).mono (by simp; omega)))
  have p0 := ((unhide D).cell hsz).trans (unhide LV).f0
  have p1 := ((unhide D).cell hsz).trans (unhide LV).f1
  have p3 := ((unhide D).cell hsz).trans (unhide LV).f3
  have p4 := ((unhide D).cell hsz).trans (unhide LV).f4
  have r0 : W7.cell? ⟨W5.heap.size, 0, none⟩ = some (.pointer (ptr tc (wc.heap.size + 3))) := ((unhide L7).cell (by simp)).trans (World.cell?_alloc_at _ _ _ _ rfl)
  have r1 : W7.cell? ⟨W5.heap.size, 1, none⟩ = some (.pointer (ptr uc (wc.heap.size + 3 + tc.toNat))) := ((unhide L7).cell (by simp)).trans (World.cell?_alloc_at _ _ _ _ rfl)
  have r3 : W7.cell? ⟨W5.heap.size, 3, none⟩ = some (.pointer (ptr wf (wc.heap.size + 3 + tc.toNat + uc.toNat))) := ((unhide L7).cell (by simp)).trans (World.cell?_alloc_at _ _ _ _ rfl)
  have r4 : W7.cell? ⟨W5.heap.size, 4, none⟩ = some (.pointer (ptr rf (wc.heap.size + 3 + tc.toNat + uc.toNat + wf.toNat))) := ((unhide L7).cell (by simp)).trans (World.cell?_alloc_at _ _ _ _ rfl)
  have tp := (unhide LV).top
  have E0 := fun hc : tc = true => eql_28 (w := W7) (a := wc.heap.size + 3) (b := n) (by omega) (((unhide CO).h0 hc).past _ |>.below (unhide L7) (by have := ((unhide CO).h0 hc).lt; simp; omega)) (((unhide LV).g0 hc).2.2.below (unhide D) ((unhide LV).g0 hc).2.2.lt)
  have E1 := fun hc : uc = true => eql_29 (w := W7) (a := wc.heap.size + 3 + tc.toNat) (b := n + tc.toNat) (by omega) (((unhide CO).h1 hc).past _ |>.below (unhide L7) (by have := ((unhide CO).h1 hc).lt; simp; omega)) (((unhide LV).g1 hc).2.2.below (unhide D) ((unhide LV).g1 hc).2.2.lt)
  have E3 := fun hc : wf = true => eql_30 (w := W7) (a := wc.heap.size + 3 + tc.toNat + uc.toNat) (b := n + tc.toNat + uc.toNat) (by omega) (((unhide CO).h3 hc).past _ |>.below (unhide L7) (by have := ((unhide CO).h3 hc).lt; simp; omega)) (((unhide LV).g3 hc).2.2.below (unhide D) ((unhide LV).g3 hc).2.2.lt)
  have E4 := fun hc : rf = true => eql_31 (w := W7) (a := wc.heap.size + 3 + tc.toNat + uc.toNat + wf.toNat) (b := n + tc.toNat + uc.toNat + wf.toNat) (by omega) (((unhide CO).h4 hc).past _ |>.below (unhide L7) (by have := ((unhide CO).h4 hc).lt; simp; omega)) (((unhide LV).g4 hc).2.2.below (unhide D) ((unhide LV).g4 hc).2.2.lt)
  have FIN := hide ((unhide LB).trans ((unhide D).mono (unhide LB).size))
  clear D L7 LB LV CO tp hsz5 hsz z0 z1 z3 z4 SM HWF HRF HX HO hs
  generalize wc.heap.size + 3 + tc.toNat + uc.toNat + wf.toNat = k4 at r4 E4 ⊢
  generalize wc.heap.size + 3 + tc.toNat + uc.toNat = k3 at r3 E3 ⊢
  generalize wc.heap.size + 3 + tc.toNat = k1 at r1 E1 ⊢
  generalize wc.heap.size + 3 = k0 at r0 E0 ⊢
  generalize n + tc.toNat + uc.toNat + wf.toNat = n4 at p4 E4
  generalize n + tc.toNat + uc.toNat = n3 at p3 E3
  generalize n + tc.toNat = n1 at p1 E1
  generalize W5.heap.size = m2 at r0 r1 r3 r4 ⊢
  cases tc <;> cases uc <;> cases wf <;> cases rf
  all_goals
    simp only [ptr_true, ptr_false] at p0 p1 p3 p4 r0 r1 r3 r4
    try have e0 := E0 rfl
    try have e1 := E1 rfl
    try have e3 := E3 rfl
    try have e4 := E4 rfl
    clear E0 E1 E3 E4
    go_wp2_with fail
    go_ret
    exact ⟨rfl, unhide FIN⟩
end Go.Proofs.Qxb6602634a

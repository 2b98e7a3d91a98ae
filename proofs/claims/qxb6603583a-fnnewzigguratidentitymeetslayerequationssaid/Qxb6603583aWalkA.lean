/-
  THE WALK OF 'newZiggurat' OVER THE IDENTITY. By an AI agent.
-/
import Derived.Test.Qxb6603583aState
import Derived.RegionTactic
import Derived.Deep.RegionWith
namespace Go.Proofs.Qxb6603583a
open Go.RowKit
open Zig (xs scw yq ym inn hw)
set_option linter.unusedVariables false
attribute [local go_sem] run_store_float

def ht (r v i : Nat) : Nat := if i = 0 then 0 else if i ≤ 255 then xs r v i else 4607182418800017408


theorem facts1 {r v R V : Nat} (D : Zig.Dom r v R V) (k : Nat) (h1 : 1 ≤ k) (h2 : k ≤ 254) : ∃ q, floatBits .quo .f64 v (xs r v k) = some q ∧ floatBits .add .f64 (xs r v k) q = some (xs r v (k + 1)) := by
  obtain ⟨n, rfl⟩ : ∃ n, k = n + 1 := ⟨k - 1, by omega⟩
  obtain ⟨q, H, Q, H2, m1, m2, _⟩ := Zig.layer D n (by omega)
  have ex : xs r v (n + 1) = hw r v n := Zig.xs_mid _ _ _ (by omega) (by omega)
  have ex2 : xs r v (n + 1 + 1) = hw r v (n + 1) := Zig.xs_mid _ _ _ (by omega) (by omega)
  rw [ex, ex2]
  exact ⟨q, m1, m2⟩

theorem facts2 {r v R V : Nat} (D : Zig.Dom r v R V) (k : Nat) (h : k ≤ 255) : floatBits .mul .f64 (xs r v k) 4368491638549381120 = some (scw r v k) ∧ floatBits .quo .f64 (xs r v (k + 1)) (xs r v k) = some (yq r v k) ∧
    floatBits .mul .f64 (yq r v k) 4841369599423283200 = some (ym r v k) ∧ floatToIntVal .f64 (ym r v k) .u64 = some (inn r v k : Int) := by
  obtain ⟨X, S, _, m, _⟩ := Zig.scale_is D k h
  have cv : ∀ x (n : Nat), (Ieee.double.read x).toInt .zero = some (n : Int) → n ≤ 18446744073709551615 → floatToIntVal .f64 x .u64 = some (n : Int) := by
    intro x n h1 h2
    unfold floatToIntVal
    show (match (Ieee.double.read x).toInt .zero with | some n => if IntKind.u64.min ≤ n ∧ n ≤ IntKind.u64.max then some n else none | none => none) = _
    rw [h1]
    have e1 : IntKind.u64.min = 0 := by decide
    have e2 : IntKind.u64.max = 18446744073709551615 := by decide
    simp only [e1, e2]
    rw [if_pos ⟨by omega, by omega⟩]
  rcases Nat.lt_or_ge k 255 with hk | hk
  · obtain ⟨_, _, _, _, _, m1, _, m2, m3, n1, n2, _⟩ := Zig.inner_is D k (by omega)
    exact ⟨m, m1, m2, cv _ _ m3 (by omega)⟩
  · have : k = 255 := by omega
    subst this
    obtain ⟨m1, m2, m3, m4⟩ := Zig.inner_last D
    exact ⟨m, m1, m2, cv _ _ m3 (by omega)⟩

def ps (f : Nat → Nat) (k j : Nat) : Nat := if j < k then f j else 0
theorem ps_step (f : Nat → Nat) (k i : Nat) : upd (ps f k) k (f k) i = ps f (k + 1) i := by
  unfold upd ps
  by_cases e : i = k
  · subst e; rw [if_pos rfl, if_pos (by omega)]
  · rw [if_neg e]
    by_cases h : i < k
    · rw [if_pos h, if_pos (by omega)]
    · rw [if_neg h, if_neg (by omega)]

/-- The loop over the scales and counts. -/
def Rel2 (w : World) (r v : Nat) (i : Value) (wr : World) : Prop := ∃ k : Nat, k ≤ 256 ∧ i = .int .i64 k ∧ St w wr (xs r v) (ps (scw r v) k) (ps (inn r v) k) (ht r v)

def gx (r v k j : Nat) : Nat := if j ≤ k then xs r v j else 0
def gh (r v k j : Nat) : Nat := if j = 0 then 0 else if j ≤ k then xs r v j else 0

/-- The loop over the heights. -/
def Rel1 (w : World) (r v : Nat) (i : Value) (wr : World) : Prop := ∃ k : Nat, 1 ≤ k ∧ k ≤ 255 ∧ i = .int .i64 k ∧ St w wr (gx r v k) (fun _ => 0) (fun _ => 0) (gh r v k)

set_option maxHeartbeats 1000000 in
set_option maxRecDepth 100000 in
theorem new_any (r v R V : Nat) (D : Zig.Dom r v R V) (w : World) : Calls Try.prog 9 #[.float .f64 r, .float .f64 v, .func (.func 10) #[] #[], .func (.func 10) #[] #[]] w fun e w' =>
    e = .returned (.pointer (some ⟨w.heap.size + 1, 0, none⟩)) ∧ St w w' (xs r v) (scw r v) (inn r v) (ht r v) := by
  have z30 := zero30
  have z36 := zero36
  obtain ⟨x0, X0, hx0, ex0, _⟩ := Zig.base D
  have q0 := fun w => run_float_arith (P := Try.prog) w .quo 22 .f64 v r x0 hx0
  have EX := hide ex0
  have DD := hide D
  have st := hide (St.start w)
  clear hx0 ex0 D
  go_enter Try.func9, Try.ntmps9
  go_wp2_with fail
  clear z30 z36
  generalize (w.alloc (.cells Z30 30)).alloc (.cells Z36 36) = W at *
  refine (id_any _ _).mono ?_; rintro e w' ⟨rfl, hsame⟩; obtain rfl := hsame.symm; clear hsame
  have c0 := (unhide st).x 0 (by decide)
  have c1 := (unhide st).x 1 (by decide)
  have f0 := (unhide st).frx 0
  have f1 := (unhide st).frx 1
  go_wp2_with fail
  have st1 := hide (((unhide st).setX 0 x0 (by decide)).setX 1 r (by decide))
  clear st c0 c1 f0 f1 q0
  generalize (W.setCell ⟨w.heap.size, 0, none⟩ (.float .f64 x0)).setCell ⟨w.heap.size, 1, none⟩ (.float .f64 r) = W1 at *
  have c0 := (unhide st1).h 1 (by decide)
  have f0 := (unhide st1).frz 513
  simp only [Nat.reduceAdd] at c0
  go_region_with (go_at_call 10; refine (id_any _ _).mono ?_; rintro e w' ⟨rfl, hsame⟩; obtain rfl := hsame.symm; clear hsame)
  go_wp2_with fail
  have st2 := hide ((unhide st1).setH 1 r (by decide)).drew
  clear st1 c0 f0
  simp only [Nat.reduceAdd] at st2
  generalize (W1.setCell ⟨w.heap.size + 1, 513, none⟩ (.float .f64 r)).drew = W2 at *
  have hr1 : xs r v 1 = r := Zig.xs_mid _ _ _ (by decide) (by decide)
  have st3 : Rel1 w r v (.int .i64 1) W2 := by
    refine ⟨1, by decide, by decide, rfl, (unhide st2).congr (fun i hi => ?_) (fun _ _ => rfl) (fun _ _ => rfl) (fun i hi => ?_)⟩
    · unfold upd gx
      by_cases e1 : i = 1
      · subst e1; simp [hr1]
      · by_cases e0 : i = 0
        · subst e0; simp [unhide EX]
        · rw [if_neg e1, if_neg e0, if_neg (by omega)]
    · unfold upd gh
      by_cases e1 : i = 1
      · subst e1; simp [hr1]
      · by_cases e0 : i = 0
        · subst e0; simp
        · rw [if_neg e1, if_neg e0, if_neg (by omega)]
  have ST3 := hide st3
  clear st3 hr1 st2 EX
  go_loopw [11] (fun i wr => Rel1 w r v i wr) (fun i _ => 256 - (intOf i).toNat)
  case atStart => exact unhide ST3
  case round =>
    clear ST3
    obtain ⟨k, k1, k2, rfl, st⟩ := hrel
    have S := hide st
    clear st
    by_cases hlt : k < 255
    · obtain ⟨q, hq, ha⟩ := facts1 (unhide DD) k k1 (by omega)
      have q0 := fun w => run_float_arith (P := Try.prog) w .quo 22 .f64 v (xs r v k) q hq
      have a0 := fun w => run_float_arith (P := Try.prog) w .add 22 .f64 (xs r v k) q _ ha
      clear hq ha
      have c0 := (unhide S).h k (by omega)
      have c1 := (unhide S).x k (by omega)
      have c2 := (unhide S).h (k + 1) (by omega)
      have c3 := (unhide S).x (k + 1) (by omega)
      have f2 := (unhide S).frz (512 + (k + 1))
      have f3 := (unhide S).frx (k + 1)
      rw [show gh r v k k = xs r v k from by unfold gh; rw [if_neg (by omega), if_pos (Nat.le_refl _)]] at c0
      rw [show gx r v k k = xs r v k from by unfold gx; rw [if_pos (Nat.le_refl _)]] at c1
      go_wp2_with fail
      go_region
      have s1 := hide ((unhide S).setH (k + 1) (xs r v (k + 1)) (by omega)).drew
      clear c0 c1 c2 c3 f2 f3 S q0 a0
      generalize (wr.setCell ⟨w.heap.size + 1, 512 + (k + 1), none⟩ (.float .f64 (xs r v (k + 1)))).drew = W3 at *
      have c2 := (unhide s1).h (k + 1) (by omega)
      rw [show upd (gh r v k) (k + 1) (xs r v (k + 1)) (k + 1) = xs r v (k + 1) from by unfold upd; rw [if_pos rfl]] at c2
      have c3 := (unhide s1).x (k + 1) (by omega)
      have f3 := (unhide s1).frx (k + 1)
      go_wp2_with (go_at_call 10; refine (id_any _ _).mono ?_; rintro e w' ⟨rfl, hsame⟩; obtain rfl := hsame.symm; clear hsame)
      go_roundw
      case rel =>
        refine ⟨k + 1, by omega, by omega, by go_num, ((unhide s1).setX (k + 1) (xs r v (k + 1)) (by omega)).congr (fun i hi => ?_) (fun _ _ => rfl) (fun _ _ => rfl) (fun i hi => ?_)⟩
        · unfold upd gx
          by_cases e : i = k + 1
          · subst e; rw [if_pos rfl, if_pos (Nat.le_refl _)]
          · rw [if_neg e]
            by_cases h : i ≤ k
            · rw [if_pos h, if_pos (by omega)]
            · rw [if_neg h, if_neg (by omega)]
        · unfold upd gh
          by_cases e : i = k + 1
          · subst e; rw [if_pos rfl, if_neg (by omega), if_pos (Nat.le_refl _)]
          · rw [if_neg e]
            by_cases h0 : i = 0
            · rw [if_pos h0, if_pos h0]
            · rw [if_neg h0, if_neg h0]
              by_cases h : i ≤ k
              · rw [if_pos h, if_pos (by omega)]
              · rw [if_neg h, if_neg (by omega)]
      case measure => simp [intOf]; omega
    · have : k = 255 := by omega
      subst this
      have c2 := (unhide S).h 256 (by omega)
      have f2 := (unhide S).frz 768
      simp only [Nat.reduceAdd] at c2
      go_wp2_with fail
      have st : Rel2 w r v (.int .i64 0) (wr.setCell ⟨w.heap.size + 1, 768, none⟩ (.float .f64 4607182418800017408)) := by
        refine ⟨0, by decide, rfl, ((unhide S).setH 256 4607182418800017408 (by decide)).congr (fun i hi => ?_) (fun i hi => ?_) (fun i hi => ?_) (fun i hi => ?_)⟩
        · unfold gx
          by_cases h : i ≤ 255
          · rw [if_pos h]
          · have : i = 256 := by omega
            subst this; rw [if_neg h, Zig.xs_top]
        · unfold ps; rw [if_neg (by omega)]
        · unfold ps; rw [if_neg (by omega)]
        · unfold upd gh ht
          by_cases h : i = 256
          · subst h; simp
          · rw [if_neg h]
            by_cases h0 : i = 0
            · rw [if_pos h0, if_pos h0]
            · rw [if_neg h0, if_neg h0, if_pos (by omega), if_pos (by omega)]
      have ST := hide st
      clear st S c2 f2
      generalize wr.setCell ⟨w.heap.size + 1, 768, none⟩ (.float .f64 4607182418800017408) = W4 at *
      go_loopw [67] (fun i wr => Rel2 w r v i wr) (fun i _ => 257 - (intOf i).toNat)
      case atStart => exact unhide ST
      case round =>
        clear ST
        obtain ⟨k, k2, rfl, st⟩ := hrel
        have S := hide st
        clear st
        by_cases hlt : k < 256
        · obtain ⟨hq, ha, hb, hcv⟩ := facts2 (unhide DD) k (by omega)
          have b0 := fun w => run_float_arith (P := Try.prog) w .mul 22 .f64 (xs r v k) 4368491638549381120 _ hq
          have b1 := fun w => run_float_arith (P := Try.prog) w .quo 22 .f64 (xs r v (k + 1)) (xs r v k) _ ha
          have b2 := fun w => run_float_arith (P := Try.prog) w .mul 22 .f64 (yq r v k) 4841369599423283200 _ hb
          have b3 := fun w => run_convert_float_int (P := Try.prog) w 22 27 .f64 .u64 (ym r v k) _ (by kernel_rfl) Try.underlying27 hcv
          clear hq ha hb hcv
          have c0 := (unhide S).x k (by omega)
          have c1 := (unhide S).x (k + 1) (by omega)
          have c2 := (unhide S).s k (by omega)
          have f2 := (unhide S).frz k
          go_wp2_with fail
          go_region
          have s1 := hide ((unhide S).setS k (scw r v k) (by omega)).drew
          clear c0 c1 c2 f2 S b0
          generalize (wr.setCell ⟨w.heap.size + 1, k, none⟩ (.float .f64 (scw r v k))).drew = W5 at *
          have c0 := (unhide s1).x k (by omega)
          have c1 := (unhide s1).x (k + 1) (by omega)
          have c2 := (unhide s1).i k (by omega)
          have f2 := (unhide s1).frz (256 + k)
          go_wp2_with fail
          go_region
          have s2 := hide ((unhide s1).setI k (inn r v k) (by omega)).drew
          clear c0 c1 c2 f2 s1 b1 b2 b3
          generalize (W5.setCell ⟨w.heap.size + 1, 256 + k, none⟩ (.int .u64 (inn r v k : Int))).drew = W6 at *
          go_wp2_with fail
          go_roundw
          case rel => exact ⟨k + 1, by omega, by go_num, (unhide s2).congr (fun _ _ => rfl) (fun i _ => ps_step _ k i) (fun i _ => ps_step _ k i) (fun _ _ => rfl)⟩
          case measure => simp [intOf]; omega
        · have : k = 256 := by omega
          subst this
          go_wp2_with fail
          go_ret
          exact ⟨rfl, (unhide S).congr (fun _ _ => rfl) (fun i hi => by unfold ps; rw [if_pos hi]) (fun i hi => by unfold ps; rw [if_pos hi]) (fun _ _ => rfl)⟩

/-- ZZnewZigguratIdentity. -/
theorem zz_new (r v R V : Nat) (D : Zig.Dom r v R V) (w : World) : Calls Try.prog 5 #[.float .f64 r, .float .f64 v] w fun e w' =>
    e = .returned (.pointer (some ⟨w.heap.size + 1, 0, none⟩)) ∧ St w w' (xs r v) (scw r v) (inn r v) (ht r v) := by
  have H := hide (new_any r v R V D w)
  clear D
  go_enter Try.func5, Try.ntmps5
  go_wp2_with (go_at_call 9; refine (unhide H).mono ?_; rintro e w' ⟨rfl, hst⟩; have HS := hide hst; clear hst)
  go_ret
  exact ⟨rfl, unhide HS⟩
end Go.Proofs.Qxb6603583a

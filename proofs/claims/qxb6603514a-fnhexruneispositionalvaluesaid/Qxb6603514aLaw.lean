/-
  THE PLAIN LAW (the last eight digits decide) AND THE WALK OF 'FnHexRuneIsPositionalValue'. By an AI agent.
-/
import Derived.Test.Qxb6603514aClone
namespace Go.Proofs.Qxb6603514a.pos
open Go.RowKit
set_option linter.unusedVariables false

/-- The positional value of the last j of n digits. -/
def posVal (g : Nat → Int) (n : Nat) : Nat → Int
  | 0 => 0
  | j + 1 => posVal g n j + hv (g (n - 1 - j)) * 16 ^ j

theorem posVal_shift (g : Nat → Int) (n : Nat) : ∀ j, posVal g (n + 1) (j + 1) = 16 * posVal g n j + hv (g n)
  | 0 => by simp [posVal]
  | j + 1 => by
    have ih := posVal_shift g n j
    show posVal g (n + 1) (j + 1) + hv (g (n + 1 - 1 - (j + 1))) * 16 ^ (j + 1) = 16 * (posVal g n j + hv (g (n - 1 - j)) * 16 ^ j) + hv (g n)
    rw [ih, show n + 1 - 1 - (j + 1) = n - 1 - j from by omega, Int.pow_succ, Int.mul_add]
    have : hv (g (n - 1 - j)) * (16 ^ j * 16) = 16 * (hv (g (n - 1 - j)) * 16 ^ j) := by ac_rfl
    omega

theorem wrap32_idem (x : Int) : wrap32 (wrap32 x) = wrap32 x := by unfold wrap32; omega
theorem wrap_hexTo (g : Nat → Int) : ∀ k, wrap32 (hexTo g k) = hexTo g k
  | 0 => by simp [hexTo, wrap32]
  | k + 1 => by simp only [hexTo]; exact wrap32_idem _
theorem wrap_step (x d : Int) : wrap32 (wrap32 x * 16 + d) = wrap32 (x * 16 + d) := by unfold wrap32; omega

theorem hexTo_split (g : Nat → Int) (a : Nat) : ∀ j, hexTo g (a + j) = wrap32 (hexTo g a * 16 ^ j + posVal g (a + j) j)
  | 0 => by simp [posVal, wrap_hexTo]
  | j + 1 => by
    have ih := hexTo_split g a j
    show wrap32 (hexTo g (a + j) * 16 + hv (g (a + j))) = wrap32 (hexTo g a * 16 ^ (j + 1) + posVal g (a + j + 1) (j + 1))
    rw [ih, wrap_step, posVal_shift, Int.pow_succ, Int.add_mul, ← Int.mul_assoc]
    congr 1
    omega

theorem posVal_bd (g : Nat → Int) (n : Nat) (h : ∀ i, i < n → 0 ≤ hv (g i) ∧ hv (g i) < 16) : ∀ j, j ≤ n → 0 ≤ posVal g n j ∧ posVal g n j < 16 ^ j
  | 0, _ => by simp [posVal]
  | j + 1, hj => by
    have ih := posVal_bd g n h j (by omega)
    have hd := h (n - 1 - j) (by omega)
    have hp : (0 : Int) < 16 ^ j := Int.pow_pos (by decide)
    simp only [posVal, Int.pow_succ]
    generalize (16 : Int) ^ j = p at *
    have h1 : 0 ≤ hv (g (n - 1 - j)) * p := Int.mul_nonneg hd.1 (Int.le_of_lt hp)
    have h2 : hv (g (n - 1 - j)) * p ≤ 15 * p := Int.mul_le_mul_of_nonneg_right (by omega) (Int.le_of_lt hp)
    omega

theorem law_short (g : Nat → Int) (n : Nat) : hexTo g n = wrap32 (posVal g n n) := by
  have := hexTo_split g 0 n
  simpa [hexTo] using this
theorem law_long (g : Nat → Int) (n : Nat) (h : 8 ≤ n) : hexTo g n = wrap32 (posVal g n 8) := by
  have := hexTo_split g (n - 8) 8
  rw [show n - 8 + 8 = n from by omega] at this
  rw [this]
  unfold wrap32
  have : (16 : Int) ^ 8 = 4294967296 := by decide
  rw [this]
  omega

/-- The weight after j rounds. -/
def wt (j : Nat) : Int := if j < 8 then 16 ^ j else 0
theorem wt_step (j : Nat) (h : j < 8) : wt j * 16 % 4294967296 = wt (j + 1) := by
  have : j = 0 ∨ j = 1 ∨ j = 2 ∨ j = 3 ∨ j = 4 ∨ j = 5 ∨ j = 6 ∨ j = 7 := by omega
  rcases this with rfl | rfl | rfl | rfl | rfl | rfl | rfl | rfl <;> decide
theorem pow8 (j : Nat) (h : j ≤ 8) : (16 : Int) ^ j ≤ 4294967296 := by
  have : j = 0 ∨ j = 1 ∨ j = 2 ∨ j = 3 ∨ j = 4 ∨ j = 5 ∨ j = 6 ∨ j = 7 ∨ j = 8 := by omega
  rcases this with rfl | rfl | rfl | rfl | rfl | rfl | rfl | rfl | rfl <;> decide

theorem pos_step (g : Nat → Int) (n j : Nat) (hj : j < n) (h8 : j < 8) (h : ∀ i, i < n → 0 ≤ hv (g i) ∧ hv (g i) < 16) :
    (posVal g n j + hv (g (n - 1 - j)) * wt j % 4294967296) % 4294967296 = posVal g n (j + 1) := by
  have b1 := posVal_bd g n h (j + 1) hj
  have b0 := posVal_bd g n h j (by omega)
  have p := pow8 (j + 1) (by omega)
  have : wt j = 16 ^ j := if_pos h8
  rw [this]
  simp only [posVal] at b1 ⊢
  omega
theorem int_eq {k : IntKind} {a b : Int} (h : a = b) : Value.int k a = Value.int k b := by rw [h]

theorem walk_big (a : Option Addr) (len cap : Nat) (hm : len ≤ maxLen) (h : 65536 < len) (w : World) :
    Calls Try.prog 3 #[.slice a len cap] w fun e w' => e = .returned (.bool true) ∧ Below w.heap.size w w' := by
  have H := hide (bytes_any a len cap hm w)
  unfold maxLen at hm
  by_cases hb : (len : Int) ≤ 1048576
  · have hd : decide ((len : Int) ≤ 1048576) = true := decide_eq_true hb
    go_enter Try.func3, Try.ntmps3
    go_wp2_with (go_at_call 7; refine (unhide H).mono ?_; rintro e w' ⟨rfl, rfl⟩)
    go_ret
    exact ⟨rfl, Below.refl _ _⟩
  · have hd : decide ((len : Int) ≤ 1048576) = false := decide_eq_false hb
    go_enter Try.func3, Try.ntmps3
    go_wp2_with (go_at_call 7; refine (unhide H).mono ?_; rintro e w' ⟨rfl, rfl⟩)
    go_ret
    exact ⟨rfl, Below.refl _ _⟩

set_option maxHeartbeats 1000000 in
theorem walk_nil (w : World) : Calls Try.prog 3 #[.slice none 0 0] w fun e w' => e = .returned (.bool true) ∧ Below w.heap.size w w' := by
  have H := hide (bytes_any none 0 0 (by decide) w)
  go_enter Try.func3, Try.ntmps3
  go_wp2_with (go_at_call 7; refine (unhide H).mono ?_; rintro e w' ⟨rfl, rfl⟩)
  go_loop [3] (fun i => i = .int .i64 0) (fun _ => 0)
  case atStart => rfl
  case round =>
    subst hrel
    go_wp2_with (go_at_call 9; refine (clone_nil _).mono ?_; rintro e w' ⟨rfl, rfl⟩)
    go_loop [6, 7, 8] (fun a b k => a = .int .u32 0 ∧ k = .int .i64 (-1)) (fun _ _ _ => 0)
    case atStart => exact ⟨rfl, rfl⟩
    case round =>
      obtain ⟨rfl, rfl⟩ := hrel
      go_wp2_with (go_at_call 10; refine (zz_nil _).mono ?_; rintro e w' ⟨rfl, rfl⟩)
      go_ret
      exact ⟨rfl, Below.refl _ _⟩

set_option maxHeartbeats 2000000 in
theorem walk_at (b off len cap : Nat) (g : Nat → Int) (hpos : 0 < len) (hm : len ≤ 65536) (w : World) (hb : b < w.heap.size)
    (hc : ∀ i, i < len → w.cell? ⟨b, off + i, none⟩ = some (.int .u8 (g i))) :
    Calls Try.prog 3 #[.slice (some ⟨b, off, none⟩) len cap] w fun e w' => e = .returned (.bool true) ∧ Below w.heap.size w w' := by
  have H := hide (bytes_any (some ⟨b, off, none⟩) len cap (by unfold maxLen; omega) w)
  have hd : decide ((len : Int) ≤ 1048576) = true := decide_eq_true (by omega)
  have HCL := hide (clone_at b off len cap g hm w hb hc)
  have HC := hide hc
  clear hc
  go_enter Try.func3, Try.ntmps3
  go_wp2_with (go_at_call 7; refine (unhide H).mono ?_; rintro e w' ⟨rfl, hsame⟩; obtain rfl := hsame.symm; clear hsame)
  clear H hd
  go_loop [3] (fun i => ∃ k : Nat, k ≤ len ∧ i = .int .i64 k ∧ ∀ j, j < k → isHex (g j)) (fun i => len - (intOf i).toNat)
  case atStart => exact ⟨0, by omega, rfl, fun j hj => by omega⟩
  case round =>
    obtain ⟨k, hk, rfl, hx⟩ := hrel
    by_cases hlt : k < len
    · have h1 := unhide HC k hlt
      have HX := hide hx
      clear hx
      by_cases hh : isHex (g k)
      · have HV := hide (hexVal_yes (g k) hh w)
        go_wp2_with (go_at_call 8; refine (unhide HV).mono ?_; rintro e w' ⟨rfl, hsame⟩; obtain rfl := hsame.symm; clear hsame)
        go_round
        case rel =>
          refine ⟨k + 1, by omega, by go_num, fun j hj => ?_⟩
          by_cases e : j = k
          · subst e; exact hh
          · exact unhide HX j (by omega)
        case measure => simp [intOf]; omega
      · have HV := hide (hexVal_no (g k) hh w)
        clear hh
        go_wp2_with (go_at_call 8; refine (unhide HV).mono ?_; rintro e w' ⟨rfl, hsame⟩; obtain rfl := hsame.symm; clear hsame)
        go_ret
        exact ⟨rfl, Below.refl _ _⟩
    · have : k = len := by omega
      subst this
      have HX := hide hx
      clear hx hlt hk
      go_wp2_with (go_at_call 9; refine (unhide HCL).mono ?_; rintro e w1 ⟨rfl, hc1, hbel⟩)
      have HC1 := hide hc1
      have HB := hide hbel
      clear hc1 hbel HC HCL
      go_loop [6, 7, 8] (fun a c i => ∃ j : Nat, j ≤ k ∧ j ≤ 8 ∧ a = .int .u32 (posVal g k j) ∧ c = .int .u32 (wt j) ∧ i = .int .i64 ((k : Int) - 1 - j)) (fun _ _ i => (intOf i + 1).toNat)
      case atStart => exact ⟨0, by omega, by omega, rfl, rfl, by simp⟩
      case round =>
        obtain ⟨j, hj, hj8, rfl, rfl, rfl⟩ := hrel
        by_cases hlt : j < k ∧ j < 8
        · obtain ⟨kk, hkk⟩ : ∃ kk : Nat, kk = k - 1 - j := ⟨_, rfl⟩
          have e : (k : Int) - 1 - j = (kk : Int) := by omega
          rw [e]
          have E := hide e
          have EK := hide hkk
          have h0 : kk < k := by omega
          have h9 : (k : Int) - 8 ≤ kk := by omega
          have h1 := unhide HC1 kk h0
          have HV := hide (hexVal_yes (g kk) (unhide HX kk h0) w1)
          have HP := hide (pos_step g k j hlt.1 hlt.2 (fun i hi => hv_bd (g i) (unhide HX i hi)))
          rw [← hkk] at HP
          clear e hkk
          go_wp2_with (go_at_call 8; refine (unhide HV).mono ?_; rintro e w' ⟨rfl, hsame⟩; obtain rfl := hsame.symm; clear hsame)
          go_round
          case rel => exact ⟨j + 1, by omega, by omega, int_eq (unhide HP), int_eq (wt_step j hlt.2), int_eq (by have := unhide E; omega)⟩
          case measure => simp [intOf]
        · have hx' : hexTo g k = wrap32 (posVal g k j) := by
            by_cases e : j = k
            · subst e; exact law_short g j
            · have : j = 8 := by omega
              subst this
              exact law_long g k (by omega)
          have HZ := hide (zz_at w.heap.size 0 k k g hm w1 (by simpa using unhide HC1) (unhide HX))
          rw [hx'] at HZ
          clear hx'
          by_cases e : j = k
          · have h0 : ((k : Int) - 1 - j) < 0 := by omega
            clear e
            go_wp2_with (go_at_call 10; refine (unhide HZ).mono ?_; rintro e w' ⟨rfl, hsame⟩; obtain rfl := hsame.symm; clear hsame)
            go_ret
            exact ⟨rfl, unhide HB⟩
          · have h0 : ((k : Int) - 1 - j) < (k : Int) - 8 := by omega
            have h1 : 0 ≤ ((k : Int) - 1 - j) := by omega
            clear e
            go_wp2_with (go_at_call 10; refine (unhide HZ).mono ?_; rintro e w' ⟨rfl, hsame⟩; obtain rfl := hsame.symm; clear hsame)
            go_ret
            exact ⟨rfl, unhide HB⟩

set_option maxHeartbeats 400000 in
theorem clone_zero (x : Addr) (cap : Nat) (w : World) :
    Calls Try.prog 9 #[.slice (some x) 0 cap] w fun e w' => e = .returned (.slice (some ⟨w.heap.size, 0, none⟩) 0 0) ∧ Below w.heap.size w w' := by
  have hnil := fun w => Lib.run_eql_slice_nil (P := Try.prog) w 22 5 (some x) 0 cap 0 0 Try.underlying22
  have hmk := run_make_row' (P := Try.prog) 22 5 (.int .u8 0) 1 Try.underlying22 info5 rfl .i64 .i64 0 (by omega) (by omega)
  simp only [Int.natCast_zero] at hmk
  go_enter Try.func9, Try.ntmps9
  go_wp2
  clear hnil hmk
  go_loop [4] (fun i => i = .int .i64 0) (fun _ => 0)
  case atStart => rfl
  case round =>
    subst hrel
    go_wp2
    go_ret
    exact ⟨rfl, (Below.refl _ _).alloc (Nat.le_refl _) _⟩

set_option maxHeartbeats 1000000 in
theorem walk_zero (x : Addr) (cap : Nat) (w : World) : Calls Try.prog 3 #[.slice (some x) 0 cap] w fun e w' => e = .returned (.bool true) ∧ Below w.heap.size w w' := by
  have H := hide (bytes_any (some x) 0 cap (by decide) w)
  go_enter Try.func3, Try.ntmps3
  go_wp2_with (go_at_call 7; refine (unhide H).mono ?_; rintro e w' ⟨rfl, hsame⟩; obtain rfl := hsame.symm; clear hsame)
  go_loop [3] (fun i => i = .int .i64 0) (fun _ => 0)
  case atStart => rfl
  case round =>
    subst hrel
    go_wp2_with (go_at_call 9; refine (clone_zero _ _ _).mono ?_; rintro e w1 ⟨rfl, hbel⟩)
    have HB := hide hbel
    have HZ := hide (zz_at w.heap.size 0 0 0 (fun _ => 0) (by omega) w1 (fun i hi => by omega) (fun i hi => by omega))
    clear hbel
    go_loop [6, 7, 8] (fun a b k => a = .int .u32 0 ∧ k = .int .i64 (-1)) (fun _ _ _ => 0)
    case atStart => exact ⟨rfl, rfl⟩
    case round =>
      obtain ⟨rfl, rfl⟩ := hrel
      go_wp2_with (go_at_call 10; refine (unhide HZ).mono ?_; rintro e w' ⟨rfl, hsame⟩; obtain rfl := hsame.symm; clear hsame)
      go_ret
      exact ⟨rfl, unhide HB⟩
end Go.Proofs.Qxb6603514a.pos

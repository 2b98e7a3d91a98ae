/-
  'hexRune' AND 'ZZhexRune': what they compute on hexadecimal digits. By an AI agent.
-/
import Derived.Test.Qxb6603514aRows
import Derived.WalkKit
import Derived.WalkSpells
import Derived.WalkLawsBesides
import Derived.ProofKit
import Derived.Below
namespace Go.Proofs.Qxb6603514a
open Go.RowKit
set_option linter.unusedVariables false

theorem hide {p : Prop} (h : p) : Hid p := h
theorem unhide {p : Prop} (h : Hid p) : p := h
/-- The value of a hexadecimal digit. -/
def hv (c : Int) : Int := if c ≤ 57 then c - 48 else if c ≤ 70 then c - 55 else c - 87
def isHex (c : Int) : Prop := (48 ≤ c ∧ c ≤ 57) ∨ (65 ≤ c ∧ c ≤ 70) ∨ (97 ≤ c ∧ c ≤ 102)
/-- What hexRune holds after k digits. -/
def hexTo (g : Nat → Int) : Nat → Int
  | 0 => 0
  | k + 1 => wrap32 (hexTo g k * 16 + hv (g k))

theorem or4 (x d : Int) (h0 : 0 ≤ d) (h1 : d < 16) : bits .or .i32 (wrap32 (x * 16)) d = wrap32 (x * 16 + d) := by
  simp only [bits, BitVec.toNat_or, BitVec.toNat_ofInt]
  show IntKind.i32.wrap ((((wrap32 (x * 16)) % (2 ^ 32 : Nat)).toNat ||| (d % (2 ^ 32 : Nat)).toNat : Nat) : Int) = _
  have e1 : ((wrap32 (x * 16)) % (2 ^ 32 : Nat)).toNat = 2 ^ 4 * ((x % 268435456).toNat) := by
    unfold wrap32; omega
  have e2 : (d % (2 ^ 32 : Nat)).toNat = d.toNat := by omega
  rw [e1, e2, ← Nat.two_pow_add_eq_or_of_lt (by omega), IntKind.wrap_i32]
  unfold wrap32
  omega

theorem hv_num {c : Int} (h1 : 48 ≤ c) (h2 : c ≤ 57) : hv c = c - 48 := by unfold hv; rw [if_pos h2]
theorem hv_up {c : Int} (h1 : 65 ≤ c) (h2 : c ≤ 70) : hv c = c - 55 := by unfold hv; rw [if_neg (by omega), if_pos h2]
theorem hv_lo {c : Int} (h1 : 97 ≤ c) (h2 : c ≤ 102) : hv c = c - 87 := by unfold hv; rw [if_neg (by omega), if_neg (by omega)]

theorem step_num (g : Nat → Int) (k : Nat) (h1 : 48 ≤ g k) (h2 : g k ≤ 57) : bits .or .i32 (wrap32 (hexTo g k * 16)) (g k - 48) = hexTo g (k + 1) := by
  rw [or4 _ _ (by omega) (by omega)]; simp only [hexTo]; rw [hv_num h1 h2]
theorem step_up (g : Nat → Int) (k : Nat) (h1 : 65 ≤ g k) (h2 : g k ≤ 70) : bits .or .i32 (wrap32 (hexTo g k * 16)) (g k - 65 + 10) = hexTo g (k + 1) := by
  rw [or4 _ _ (by omega) (by omega)]; simp only [hexTo]; rw [hv_up h1 h2]; congr 1; omega
theorem step_lo (g : Nat → Int) (k : Nat) (h1 : 97 ≤ g k) (h2 : g k ≤ 102) : bits .or .i32 (wrap32 (hexTo g k * 16)) (g k - 97 + 10) = hexTo g (k + 1) := by
  rw [or4 _ _ (by omega) (by omega)]; simp only [hexTo]; rw [hv_lo h1 h2]; congr 1; omega

set_option maxHeartbeats 400000 in
/-- hexRune over 'len' digits at an address. -/
theorem hexRune_at (b off len cap : Nat) (g : Nat → Int) (hm : len ≤ 65536) (w : World)
    (hc : ∀ i, i < len → w.cell? ⟨b, off + i, none⟩ = some (.int .u8 (g i))) (hh : ∀ i, i < len → isHex (g i)) :
    Calls Try.prog 18 #[.slice (some ⟨b, off, none⟩) len cap] w fun e w' => e = .returned (.int .i32 (hexTo g len)) ∧ w' = w := by
  have HC : Hid (∀ i, i < len → w.cell? ⟨b, off + i, none⟩ = some (.int .u8 (g i))) := hc
  clear hc
  go_enter Try.func18, Try.ntmps18
  go_wp2
  go_loop [3, 8] (fun r i => ∃ k : Nat, k ≤ len ∧ i = .int .i64 k ∧ r = .int .i32 (hexTo g k)) (fun _ i => len - (intOf i).toNat)
  case atStart => exact ⟨0, Nat.zero_le _, rfl, rfl⟩
  case round =>
    obtain ⟨k, hk, rfl, rfl⟩ := hrel
    by_cases hlt : k < len
    · have hcell := HC.out k hlt
      have hx := hh k hlt
      clear hh
      rcases hx with hx | hx | hx
      · obtain ⟨h1, h2⟩ := hx
        have HS := hide (step_num g k h1 h2)
        go_wp2
        go_round
        case rel => exact ⟨k + 1, by omega, by go_num, by rw [← unhide HS]⟩
        case measure => simp [intOf]; omega
      · obtain ⟨h1, h2⟩ := hx
        have HS := hide (step_up g k h1 h2)
        have h3 : 57 < g k := by omega
        go_wp2
        go_round
        case rel => exact ⟨k + 1, by omega, by go_num, by rw [← unhide HS]⟩
        case measure => simp [intOf]; omega
      · obtain ⟨h1, h2⟩ := hx
        have HS := hide (step_lo g k h1 h2)
        have h3 : 57 < g k := by omega
        have h4 : 70 < g k := by omega
        go_wp2
        go_round
        case rel => exact ⟨k + 1, by omega, by go_num, by rw [← unhide HS]⟩
        case measure => simp [intOf]; omega
    · have : k = len := by omega
      subst this
      go_wp2
      go_ret
      exact ⟨rfl, rfl⟩
set_option maxHeartbeats 400000 in
/-- hexRune over no digit at all. -/
theorem hexRune_nil (w : World) : Calls Try.prog 18 #[.slice none 0 0] w fun e w' => e = .returned (.int .i32 0) ∧ w' = w := by
  go_enter Try.func18, Try.ntmps18
  go_wp2
  go_loop [3, 8] (fun r i => i = .int .i64 0 ∧ r = .int .i32 0) (fun _ i => 0)
  case atStart => exact ⟨rfl, rfl⟩
  case round =>
    obtain ⟨rfl, rfl⟩ := hrel
    go_wp2
    go_ret
    exact ⟨rfl, rfl⟩

theorem zz_at (b off len cap : Nat) (g : Nat → Int) (hm : len ≤ 65536) (w : World)
    (hc : ∀ i, i < len → w.cell? ⟨b, off + i, none⟩ = some (.int .u8 (g i))) (hh : ∀ i, i < len → isHex (g i)) :
    Calls Try.prog 10 #[.slice (some ⟨b, off, none⟩) len cap] w fun e w' => e = .returned (.int .i32 (hexTo g len)) ∧ w' = w := by
  have H := hide (hexRune_at b off len cap g hm w hc hh)
  clear hc hh
  go_enter Try.func10, Try.ntmps10
  go_wp2_with (go_at_call 18; refine (unhide H).mono ?_; rintro e w' ⟨rfl, rfl⟩)
  go_ret
  exact ⟨rfl, rfl⟩
theorem zz_nil (w : World) : Calls Try.prog 10 #[.slice none 0 0] w fun e w' => e = .returned (.int .i32 0) ∧ w' = w := by
  go_enter Try.func10, Try.ntmps10
  go_wp2_with (go_at_call 18; refine (hexRune_nil w).mono ?_; rintro e w' ⟨rfl, rfl⟩)
  go_ret
  exact ⟨rfl, rfl⟩
end Go.Proofs.Qxb6603514a

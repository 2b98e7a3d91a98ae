/-
  'zzHexVal', 'zzCloneBytes', 'zzBytes_..' AND THE WALK OF 'FnHexRuneIsPositionalValue'. By an AI agent.
-/
import Derived.Test.Qxb6603514aHex
import Derived.Deep.OwnRows
import Derived.RowKit3
namespace Go.Proofs.Qxb6603514a.pos
open Go.RowKit
set_option linter.unusedVariables false

def loC (k : Int) : Int := if k < 10 then 48 + k else 87 + k
def upC (k : Int) : Int := if k < 10 then 48 + k else 55 + k

theorem chars (n : Nat) (h : n < 16) (hs : n < ByteArray.size { data := #[48, 49, 50, 51, 52, 53, 54, 55, 56, 57, 97, 98, 99, 100, 101, 102] }) (hs' : n < ByteArray.size { data := #[48, 49, 50, 51, 52, 53, 54, 55, 56, 57, 65, 66, 67, 68, 69, 70] }) :
    (((ByteArray.mk #[48, 49, 50, 51, 52, 53, 54, 55, 56, 57, 97, 98, 99, 100, 101, 102])[n].toNat : Nat) : Int) = loC n ∧
    (((ByteArray.mk #[48, 49, 50, 51, 52, 53, 54, 55, 56, 57, 65, 66, 67, 68, 69, 70])[n].toNat : Nat) : Int) = upC n := by
  have : n = 0 ∨ n = 1 ∨ n = 2 ∨ n = 3 ∨ n = 4 ∨ n = 5 ∨ n = 6 ∨ n = 7 ∨ n = 8 ∨ n = 9 ∨ n = 10 ∨ n = 11 ∨ n = 12 ∨ n = 13 ∨ n = 14 ∨ n = 15 := by omega
  unfold loC upC
  rcases this with rfl | rfl | rfl | rfl | rfl | rfl | rfl | rfl | rfl | rfl | rfl | rfl | rfl | rfl | rfl | rfl <;> decide +revert

theorem hv_bd (c : Int) (hx : isHex c) : 0 ≤ hv c ∧ hv c < 16 := by unfold hv; unfold isHex at hx; split <;> (try split) <;> omega
theorem miss (c k : Int) (hx : isHex c) (h0 : 0 ≤ k) (h : k < hv c) : c ≠ loC k ∧ c ≠ upC k := by
  unfold hv at h; unfold isHex at hx; unfold loC upC; constructor <;> (split at h <;> (try split at h) <;> split <;> omega)
theorem hit (c : Int) (hx : isHex c) : c = loC (hv c) ∨ c ≠ loC (hv c) ∧ c = upC (hv c) := by
  unfold isHex at hx; unfold loC upC
  rcases hx with h | h | h
  · rw [hv_num h.1 h.2]; left; rw [if_pos (by omega)]; omega
  · rw [hv_up h.1 h.2]; right; rw [if_neg (by omega), if_neg (by omega)]; omega
  · rw [hv_lo h.1 h.2]; left; rw [if_neg (by omega)]; omega
theorem none_hit (c k : Int) (hx : ¬ isHex c) (h0 : 0 ≤ k) (h : k < 16) : c ≠ loC k ∧ c ≠ upC k := by
  unfold isHex at hx; unfold loC upC; constructor <;> (split <;> omega)

theorem ret_pair {a b : Int} (h : a = b) : Ending.returned (.tuple #[.int .u32 a, .bool true]) = .returned (.tuple #[.int .u32 b, .bool true]) := by rw [h]

set_option maxHeartbeats 400000 in
theorem hexVal_yes (c : Int) (hx : isHex c) (w : World) :
    Calls Try.prog 8 #[.int .u8 c] w fun e w' => e = .returned (.tuple #[.int .u32 (hv c), .bool true]) ∧ w' = w := by
  have hb := hv_bd c hx
  have HIT := hide (hit c hx)
  have MISS := hide (miss c)
  have HX := hide hx
  clear hx
  go_enter Try.func8, Try.ntmps8
  go_wp2
  go_loop [4] (fun i => ∃ k : Nat, (k : Int) ≤ hv c ∧ i = .int .i64 k) (fun i => 16 - (intOf i).toNat)
  case atStart => exact ⟨0, hb.1, rfl⟩
  case round =>
    obtain ⟨k, hk, rfl⟩ := hrel
    have h16 : k < 16 := by omega
    have e1 := fun h => (chars k h16 h h16).1
    have e2 := fun h => (chars k h16 h16 h).2
    by_cases he : (k : Int) = hv c
    · have HE := hide he
      have ht := unhide HIT
      rw [← he] at ht
      clear he
      rcases ht with ht | ⟨ht1, ht2⟩
      · have t1 : (c == loC k) = true := beq_iff_eq.2 ht
        clear ht
        go_wp2
        go_ret2
        exact ⟨ret_pair (unhide HE), rfl⟩
      · have t1 : (c == loC k) = false := beq_eq_false_iff_ne.2 ht1
        have t2 : (c == upC k) = true := beq_iff_eq.2 ht2
        clear ht1 ht2
        go_wp2
        go_ret2
        exact ⟨ret_pair (unhide HE), rfl⟩
    · have hlt : (k : Int) < hv c := by omega
      have t1 : (c == loC k) = false := beq_eq_false_iff_ne.2 (unhide MISS k (unhide HX) (by omega) hlt).1
      have t2 : (c == upC k) = false := beq_eq_false_iff_ne.2 (unhide MISS k (unhide HX) (by omega) hlt).2
      clear he
      go_wp2
      go_round
      case rel => exact ⟨k + 1, by omega, by go_num⟩
      case measure => simp [intOf]; omega

set_option maxHeartbeats 400000 in
theorem hexVal_no (c : Int) (hx : ¬ isHex c) (w : World) :
    Calls Try.prog 8 #[.int .u8 c] w fun e w' => e = .returned (.tuple #[.int .u32 0, .bool false]) ∧ w' = w := by
  have MISS := hide (fun k => none_hit c k hx)
  clear hx
  go_enter Try.func8, Try.ntmps8
  go_wp2
  go_loop [4] (fun i => ∃ k : Nat, k ≤ 16 ∧ i = .int .i64 k) (fun i => 16 - (intOf i).toNat)
  case atStart => exact ⟨0, by omega, rfl⟩
  case round =>
    obtain ⟨k, hk, rfl⟩ := hrel
    by_cases h16 : k < 16
    · have e1 := fun h => (chars k h16 h h16).1
      have e2 := fun h => (chars k h16 h16 h).2
      have t1 : (c == loC k) = false := beq_eq_false_iff_ne.2 (unhide MISS k (by omega) (by omega)).1
      have t2 : (c == upC k) = false := beq_eq_false_iff_ne.2 (unhide MISS k (by omega) (by omega)).2
      go_wp2
      go_round
      case rel => exact ⟨k + 1, by omega, by go_num⟩
      case measure => simp [intOf]; omega
    · go_wp2
      go_ret2
      exact ⟨rfl, rfl⟩

theorem bytes_any (a : Option Addr) (len cap : Nat) (hm : len ≤ maxLen) (w : World) :
    Calls Try.prog 7 #[.slice a len cap] w fun e w' => e = .returned (.bool (decide ((len : Int) ≤ 1048576))) ∧ w' = w := by
  unfold maxLen at hm
  by_cases h : (len : Int) ≤ 1048576
  · have hd : decide ((len : Int) ≤ 1048576) = true := decide_eq_true h
    rw [hd]
    go_enter Try.func7, Try.ntmps7
    go_wp2
    go_ret
    exact ⟨rfl, rfl⟩
  · have hd : decide ((len : Int) ≤ 1048576) = false := decide_eq_false h
    rw [hd]
    go_enter Try.func7, Try.ntmps7
    go_wp2
    go_ret
    exact ⟨rfl, rfl⟩
end Go.Proofs.Qxb6603514a.pos

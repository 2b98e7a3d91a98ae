/-
  THE WALK OF 'FnHexRuneReadsBackFourDigitSpelling'. By an AI agent.
-/
import Derived.Test.Qxb6603514aHex
import Derived.RowKit3
namespace Go.Proofs.Qxb6603514a.spell
open Go.RowKit
set_option linter.unusedVariables false

def isDig (c d : Int) : Prop := isHex c ∧ hv c = d

theorem dig_nat (n : Nat) (h : n < 16) (hs : n < ByteArray.size { data := #[48, 49, 50, 51, 52, 53, 54, 55, 56, 57, 65, 66, 67, 68, 69, 70] }) (hs' : n < ByteArray.size { data := #[48, 49, 50, 51, 52, 53, 54, 55, 56, 57, 97, 98, 99, 100, 101, 102] }) :
    isDig ((ByteArray.mk #[48, 49, 50, 51, 52, 53, 54, 55, 56, 57, 65, 66, 67, 68, 69, 70])[n].toNat : Nat) n ∧
    isDig ((ByteArray.mk #[48, 49, 50, 51, 52, 53, 54, 55, 56, 57, 97, 98, 99, 100, 101, 102])[n].toNat : Nat) n := by
  have : n = 0 ∨ n = 1 ∨ n = 2 ∨ n = 3 ∨ n = 4 ∨ n = 5 ∨ n = 6 ∨ n = 7 ∨ n = 8 ∨ n = 9 ∨ n = 10 ∨ n = 11 ∨ n = 12 ∨ n = 13 ∨ n = 14 ∨ n = 15 := by omega
  unfold isDig isHex hv
  rcases this with rfl | rfl | rfl | rfl | rfl | rfl | rfl | rfl | rfl | rfl | rfl | rfl | rfl | rfl | rfl | rfl <;> decide +revert

theorem dig_up (d : Int) (h0 : 0 ≤ d) (h1 : d < 16) (hs : d.toNat < ByteArray.size { data := #[48, 49, 50, 51, 52, 53, 54, 55, 56, 57, 65, 66, 67, 68, 69, 70] }) :
    isDig ((ByteArray.mk #[48, 49, 50, 51, 52, 53, 54, 55, 56, 57, 65, 66, 67, 68, 69, 70])[d.toNat].toNat : Nat) d := by
  have := (dig_nat d.toNat (by omega) hs (by show d.toNat < 16; omega)).1
  rwa [Int.toNat_of_nonneg h0] at this
theorem dig_lo (d : Int) (h0 : 0 ≤ d) (h1 : d < 16) (hs : d.toNat < ByteArray.size { data := #[48, 49, 50, 51, 52, 53, 54, 55, 56, 57, 97, 98, 99, 100, 101, 102] }) :
    isDig ((ByteArray.mk #[48, 49, 50, 51, 52, 53, 54, 55, 56, 57, 97, 98, 99, 100, 101, 102])[d.toNat].toNat : Nat) d := by
  have := (dig_nat d.toNat (by omega) (by show d.toNat < 16; omega) hs).2
  rwa [Int.toNat_of_nonneg h0] at this

/-- The value of the digits. -/
theorem four (r : Int) (r0 : 0 ≤ r) (r1 : r ≤ 65535) (g : Nat → Int) (h0 : hv (g 0) = r / 4096 % 16) (h1 : hv (g 1) = r / 256 % 16) (h2 : hv (g 2) = r / 16 % 16) (h3 : hv (g 3) = r % 16) : hexTo g 4 = r := by
  simp only [hexTo, h0, h1, h2, h3, wrap32]; omega
theorem high (r : Int) (r0 : 0 ≤ r) (r1 : r ≤ 65535) (g : Nat → Int) (h0 : hv (g 0) = r / 4096 % 16) (h1 : hv (g 1) = r / 256 % 16) : hexTo g 2 = r / 256 := by
  simp only [hexTo, h0, h1, wrap32]; omega
theorem low (r : Int) (r0 : 0 ≤ r) (r1 : r ≤ 65535) (g : Nat → Int) (h0 : hv (g 0) = r / 16 % 16) (h1 : hv (g 1) = r % 16) : hexTo g 2 = r % 256 := by
  simp only [hexTo, h0, h1, wrap32]; omega

theorem i32_and255 (r : Int) (h0 : 0 ≤ r) (h1 : r ≤ 65535) : bits .and .i32 r 255 = r % 256 := bits_mask .i32 31 (by decide) wraps_i32 8 (by decide) r h0 (by omega)

section
variable (w : World) (c0 c1 c2 c3 : Int)
theorem cells4 (i : Nat) (h : i < 4) : (w.alloc (.cells #[.int .u8 c0, .int .u8 c1, .int .u8 c2, .int .u8 c3] 5)).cell? ⟨w.heap.size, i, none⟩ = some (.int .u8 (match i with | 0 => c0 | 1 => c1 | 2 => c2 | _ => c3)) := by
  match i, h with
  | 0, _ => simp [go_sem]
  | 1, _ => simp [go_sem]
  | 2, _ => simp [go_sem]
  | 3, _ => simp [go_sem]
theorem call4 (x0 : isHex c0) (x1 : isHex c1) (x2 : isHex c2) (x3 : isHex c3) (r : Int) (h : hexTo (fun i => match i with | 0 => c0 | 1 => c1 | 2 => c2 | _ => c3) 4 = r) :
    Calls Try.prog 10 #[.slice (some ⟨w.heap.size, 0, none⟩) 4 4] (w.alloc (.cells #[.int .u8 c0, .int .u8 c1, .int .u8 c2, .int .u8 c3] 5)) fun e w' => e = .returned (.int .i32 r) ∧ w' = w.alloc (.cells #[.int .u8 c0, .int .u8 c1, .int .u8 c2, .int .u8 c3] 5) := by
  rw [← h]
  refine zz_at w.heap.size 0 4 4 (fun i => match i with | 0 => c0 | 1 => c1 | 2 => c2 | _ => c3) (by omega) _ (fun i hi => ?_) (fun i hi => ?_)
  · rw [Nat.zero_add]
    match i, hi with
    | 0, _ => exact cells4 w c0 c1 c2 c3 0 (by omega)
    | 1, _ => exact cells4 w c0 c1 c2 c3 1 (by omega)
    | 2, _ => exact cells4 w c0 c1 c2 c3 2 (by omega)
    | 3, _ => exact cells4 w c0 c1 c2 c3 3 (by omega)
  · match i, hi with
    | 0, _ => exact x0
    | 1, _ => exact x1
    | 2, _ => exact x2
    | 3, _ => exact x3
theorem callH (x0 : isHex c0) (x1 : isHex c1) (r : Int) (h : hexTo (fun i => match i with | 0 => c0 | _ => c1) 2 = r) :
    Calls Try.prog 10 #[.slice (some ⟨w.heap.size, 0, none⟩) 2 4] (w.alloc (.cells #[.int .u8 c0, .int .u8 c1, .int .u8 c2, .int .u8 c3] 5)) fun e w' => e = .returned (.int .i32 r) ∧ w' = w.alloc (.cells #[.int .u8 c0, .int .u8 c1, .int .u8 c2, .int .u8 c3] 5) := by
  rw [← h]
  refine zz_at w.heap.size 0 2 4 (fun i => match i with | 0 => c0 | _ => c1) (by omega) _ (fun i hi => ?_) (fun i hi => ?_)
  · rw [Nat.zero_add]
    match i, hi with
    | 0, _ => exact cells4 w c0 c1 c2 c3 0 (by omega)
    | 1, _ => exact cells4 w c0 c1 c2 c3 1 (by omega)
  · match i, hi with
    | 0, _ => exact x0
    | 1, _ => exact x1
theorem callL (x2 : isHex c2) (x3 : isHex c3) (r : Int) (h : hexTo (fun i => match i with | 0 => c2 | _ => c3) 2 = r) :
    Calls Try.prog 10 #[.slice (some ⟨w.heap.size, 2, none⟩) 2 2] (w.alloc (.cells #[.int .u8 c0, .int .u8 c1, .int .u8 c2, .int .u8 c3] 5)) fun e w' => e = .returned (.int .i32 r) ∧ w' = w.alloc (.cells #[.int .u8 c0, .int .u8 c1, .int .u8 c2, .int .u8 c3] 5) := by
  rw [← h]
  refine zz_at w.heap.size 2 2 2 (fun i => match i with | 0 => c2 | _ => c3) (by omega) _ (fun i hi => ?_) (fun i hi => ?_)
  · match i, hi with
    | 0, _ => exact cells4 w c0 c1 c2 c3 2 (by omega)
    | 1, _ => exact cells4 w c0 c1 c2 c3 3 (by omega)
  · match i, hi with
    | 0, _ => exact x2
    | 1, _ => exact x3
end

set_option maxHeartbeats 1000000 in
theorem walk_in (r m : Int) (r0 : 0 ≤ r) (r1 : r ≤ 65535) (m0 : 0 ≤ m) (m1 : m ≤ 255) (w : World) :
    Calls Try.prog 4 #[.int .i32 r, .int .u8 m] w fun e w' => e = .returned (.bool true) ∧ Grown w w' := by
  have hmk : ∀ w, (Instr.makeSlice 22 (.int .i64 4) (.int .i64 4)).run Try.prog w = .ok (.slice (some ⟨w.heap.size, 0, none⟩) 4 4) (w.alloc (.cells #[.int .u8 0, .int .u8 0, .int .u8 0, .int .u8 0] 5)) := fun _ => by kernel_rfl
  go_enter Try.func4, Try.ntmps4
  go_wp2
  go_loopw [6, 7] (fun v k w' => ∃ (kk : Nat) (c0 c1 c2 c3 : Int), kk ≤ 4 ∧ k = .int .i64 ((kk : Int) - 1) ∧ v = .int .i64 (r / 16 ^ (4 - kk)) ∧
      (kk ≤ 3 → isDig c3 (r % 16)) ∧ (kk ≤ 2 → isDig c2 (r / 16 % 16)) ∧ (kk ≤ 1 → isDig c1 (r / 256 % 16)) ∧ (kk ≤ 0 → isDig c0 (r / 4096 % 16)) ∧
      w' = w.alloc (.cells #[.int .u8 c0, .int .u8 c1, .int .u8 c2, .int .u8 c3] 5)) (fun _ k _ => (intOf k + 1).toNat)
  case atStart => exact ⟨4, 0, 0, 0, 0, by omega, rfl, by simp, by omega, by omega, by omega, by omega, rfl⟩
  case round =>
    obtain ⟨kk, c0, c1, c2, c3, hk, rfl, rfl, d3, d2, d1, d0, hw⟩ := hrel
    subst hw
    match kk, hk with
    | 4, _ =>
      simp only [Nat.sub_self, Int.pow_zero, Int.ediv_one]
      go_wp2
      · go_roundw
        case rel => exact ⟨3, c0, c1, c2, _, by omega, rfl, rfl, fun _ => dig_up (r % 16) (by omega) (by omega) _, by omega, by omega, by omega, rfl⟩
        case measure => simp [intOf]
      · go_roundw
        case rel => exact ⟨3, c0, c1, c2, _, by omega, rfl, rfl, fun _ => dig_lo (r % 16) (by omega) (by omega) _, by omega, by omega, by omega, rfl⟩
        case measure => simp [intOf]
    | 3, _ =>
      rw [show r / (16 : Int) ^ (4 - 3) = r / 16 from rfl]
      have e : r / 16 / 16 = r / (16 : Int) ^ (4 - 2) := by show _ = r / 256; omega
      have E := hide e
      have D3 := hide d3
      clear e d0 d1 d2 d3
      go_wp2
      · go_roundw
        case rel => exact ⟨2, c0, c1, _, c3, by omega, rfl, by rw [unhide E], fun _ => unhide D3 (by omega), fun _ => dig_up (r / 16 % 16) (by omega) (by omega) _, by omega, by omega, rfl⟩
        case measure => simp [intOf]
      · go_roundw
        case rel => exact ⟨2, c0, c1, _, c3, by omega, rfl, by rw [unhide E], fun _ => unhide D3 (by omega), fun _ => dig_lo (r / 16 % 16) (by omega) (by omega) _, by omega, by omega, rfl⟩
        case measure => simp [intOf]
    | 2, _ =>
      rw [show r / (16 : Int) ^ (4 - 2) = r / 256 from rfl]
      have e : r / 256 / 16 = r / (16 : Int) ^ (4 - 1) := by show _ = r / 4096; omega
      have E := hide e
      have D3 := hide d3
      have D2 := hide d2
      clear e d0 d1 d2 d3
      go_wp2
      · go_roundw
        case rel => exact ⟨1, c0, _, c2, c3, by omega, rfl, by rw [unhide E], fun _ => unhide D3 (by omega), fun _ => unhide D2 (by omega), fun _ => dig_up (r / 256 % 16) (by omega) (by omega) _, by omega, rfl⟩
        case measure => simp [intOf]
      · go_roundw
        case rel => exact ⟨1, c0, _, c2, c3, by omega, rfl, by rw [unhide E], fun _ => unhide D3 (by omega), fun _ => unhide D2 (by omega), fun _ => dig_lo (r / 256 % 16) (by omega) (by omega) _, by omega, rfl⟩
        case measure => simp [intOf]
    | 1, _ =>
      rw [show r / (16 : Int) ^ (4 - 1) = r / 4096 from rfl]
      have e : r / 4096 / 16 = r / (16 : Int) ^ (4 - 0) := by show _ = r / 65536; omega
      have E := hide e
      have D3 := hide d3
      have D2 := hide d2
      have D1 := hide d1
      clear e d0 d1 d2 d3
      go_wp2
      · go_roundw
        case rel => exact ⟨0, _, c1, c2, c3, by omega, rfl, by rw [unhide E], fun _ => unhide D3 (by omega), fun _ => unhide D2 (by omega), fun _ => unhide D1 (by omega), fun _ => dig_up (r / 4096 % 16) (by omega) (by omega) _, rfl⟩
        case measure => simp [intOf]
      · go_roundw
        case rel => exact ⟨0, _, c1, c2, c3, by omega, rfl, by rw [unhide E], fun _ => unhide D3 (by omega), fun _ => unhide D2 (by omega), fun _ => unhide D1 (by omega), fun _ => dig_lo (r / 4096 % 16) (by omega) (by omega) _, rfl⟩
        case measure => simp [intOf]
    | 0, _ =>
      obtain ⟨x3, y3⟩ := d3 (by omega)
      obtain ⟨x2, y2⟩ := d2 (by omega)
      obtain ⟨x1, y1⟩ := d1 (by omega)
      obtain ⟨x0, y0⟩ := d0 (by omega)
      clear d0 d1 d2 d3
      have H4 := hide (call4 w c0 c1 c2 c3 x0 x1 x2 x3 r (four r r0 r1 (fun i => match i with | 0 => c0 | 1 => c1 | 2 => c2 | _ => c3) y0 y1 y2 y3))
      have HH := hide (callH w c0 c1 c2 c3 x0 x1 (r / 256) (high r r0 r1 (fun i => match i with | 0 => c0 | _ => c1) y0 y1))
      have HL := hide (callL w c0 c1 c2 c3 x2 x3 (r % 256) (low r r0 r1 (fun i => match i with | 0 => c2 | _ => c3) y2 y3))
      have hand := i32_and255 r r0 r1
      clear x0 x1 x2 x3 y0 y1 y2 y3
      go_wp2_with fail
      refine (unhide H4).mono ?_
      rintro e w' ⟨rfl, rfl⟩
      go_wp2_with fail
      refine (unhide HH).mono ?_
      rintro e w' ⟨rfl, rfl⟩
      go_wp2_with fail
      refine (unhide HL).mono ?_
      rintro e w' ⟨rfl, rfl⟩
      go_wp2_with fail
      go_ret
      exact ⟨rfl, by repeat (first | exact Grown.refl _ | apply Grown.drew | apply Grown.alloc)⟩

theorem walk_out (r m : Int) (h : r < 0 ∨ 65535 < r) (w : World) :
    Calls Try.prog 4 #[.int .i32 r, .int .u8 m] w fun e w' => e = .returned (.bool true) ∧ Grown w w' := by
  rcases h with h | h
  · go_enter Try.func4, Try.ntmps4
    go_wp2
    go_ret
    exact ⟨rfl, Grown.refl _⟩
  · have h' : ¬ r < 0 := by omega
    go_enter Try.func4, Try.ntmps4
    go_wp2
    go_ret
    exact ⟨rfl, Grown.refl _⟩
end Go.Proofs.Qxb6603514a.spell

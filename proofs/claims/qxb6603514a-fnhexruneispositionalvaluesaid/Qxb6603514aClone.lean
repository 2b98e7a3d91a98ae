/-
  'zzCloneBytes': a fresh row with the same bytes. By an AI agent.
-/
import Derived.Test.Qxb6603514aPos
namespace Go.Proofs.Qxb6603514a.pos
open Go.RowKit
set_option linter.unusedVariables false

theorem info5 : (Try.prog.info? 5).map (fun i => (i.zero, i.size, i.bytes)) = some (some (.int .u8 0), 1, 1) := by kernel_rfl

theorem clone_nil (w : World) : Calls Try.prog 9 #[.slice none 0 0] w fun e w' => e = .returned (.slice none 0 0) ∧ w' = w := by
  have hnil := fun w => Lib.run_eql_slice_nil (P := Try.prog) w 22 5 none 0 0 0 0 Try.underlying22
  go_enter Try.func9, Try.ntmps9
  go_wp2
  go_ret
  exact ⟨rfl, rfl⟩

theorem made_at (n i : Nat) (h : i < n) : (madeCells #[.int .u8 0] n)[i]? = some (.int .u8 0) := by
  unfold madeCells
  simp [h, Nat.mod_one]

set_option maxHeartbeats 400000 in
theorem clone_at (b off len cap : Nat) (g : Nat → Int) (hm : len ≤ 65536) (w : World) (hb : b < w.heap.size)
    (hc : ∀ i, i < len → w.cell? ⟨b, off + i, none⟩ = some (.int .u8 (g i))) :
    Calls Try.prog 9 #[.slice (some ⟨b, off, none⟩) len cap] w fun e w' => e = .returned (.slice (some ⟨w.heap.size, 0, none⟩) len len) ∧
      (∀ i, i < len → w'.cell? ⟨w.heap.size, i, none⟩ = some (.int .u8 (g i))) ∧ Below w.heap.size w w' := by
  have hnil := fun w => Lib.run_eql_slice_nil (P := Try.prog) w 22 5 (some ⟨b, off, none⟩) len cap 0 0 Try.underlying22
  have hmk := run_make_row' (P := Try.prog) 22 5 (.int .u8 0) 1 Try.underlying22 info5 rfl .i64 .i64 len (by omega) (by omega)
  have HC := hide hc
  clear hc
  go_enter Try.func9, Try.ntmps9
  go_wp2
  clear hnil hmk
  go_loopw [4] (fun i wr => ∃ k : Nat, k ≤ len ∧ i = .int .i64 k ∧ Below w.heap.size w wr ∧
      (∀ j, j < len → wr.cell? ⟨w.heap.size, j, none⟩ = some (.int .u8 (if j < k then g j else 0))) ∧ (∀ j, j < len → wr.frozen? ⟨w.heap.size, j, none⟩ = false)) (fun i _ => len - (intOf i).toNat)
  case atStart =>
    refine ⟨0, Nat.zero_le _, rfl, (Below.refl _ _).alloc (Nat.le_refl _) _, fun j hj => ?_, fun j hj => ?_⟩
    · rw [World.cell?_alloc_at _ _ _ _ rfl, made_at _ _ hj]; simp
    · exact World.frozen?_alloc_at _ _ _ _ rfl
  case round =>
    obtain ⟨k, hk, rfl, hbel, hcell, hfr⟩ := hrel
    by_cases hlt : k < len
    · have h1 : wr.cell? ⟨b, off + k, none⟩ = some (.int .u8 (g k)) := (hbel.cell (p := ⟨b, off + k, none⟩) hb).trans (unhide HC k hlt)
      have h2 : wr.cell? ⟨w.heap.size, k, none⟩ = some (.int .u8 0) := by rw [hcell k hlt]; simp
      have h3 := hfr k hlt
      have HB := hide hbel
      have HCE := hide hcell
      have HF := hide hfr
      clear hbel hcell hfr
      go_wp2
      go_roundw
      case rel =>
        refine ⟨k + 1, by omega, by go_num, (unhide HB).setCell (Nat.le_refl _) _, fun j hj => ?_, fun j hj => ?_⟩
        · by_cases e : j = k
          · subst e
            rw [World.cell?_setCell_same wr _ _ h2]; simp
          · rw [World.cell?_setCell_other wr _ _ _ (by intro h; cases h; exact e rfl), unhide HCE j hj]
            by_cases h : j < k
            · rw [if_pos h, if_pos (by omega)]
            · rw [if_neg h, if_neg (by omega)]
        · rw [World.frozen?_setCell]; exact unhide HF j hj
      case measure => simp [intOf]; omega
    · have HCE := hide hcell
      clear hcell hfr
      go_wp2
      go_ret
      refine ⟨rfl, fun i hi => ?_, hbel⟩
      rw [unhide HCE i hi, if_pos (by omega)]
end Go.Proofs.Qxb6603514a.pos

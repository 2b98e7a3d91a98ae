/-
  THE MEMORY OF 'newZiggurat': a row of 257 floats (x) and the ziggurat (256 floats, 256 words, 257 floats). By an AI agent.
-/
import Derived.Test.Qxb6603583aRows
import Derived.Test.Qxb6603583aZigC
import Derived.WalkKit
import Derived.WalkSpells
import Derived.WalkLawsBesides
import Derived.ProofKit
import Derived.Below
import Derived.Laws.FloatArith
namespace Go.Proofs.Qxb6603583a
open Go.RowKit
set_option linter.unusedVariables false
theorem hide {p : Prop} (h : p) : Hid p := h
theorem unhide {p : Prop} (h : Hid p) : p := h

def Z30 : Array Value := Array.replicate 257 (.float .f64 0)
def Z36 : Array Value := Array.replicate 256 (.float .f64 0) ++ Array.replicate 256 (.int .u64 0) ++ Array.replicate 257 (.float .f64 0)
theorem zero30 (w : World) : (zeroValue 30).run Try.prog w = .ok (.agg Z30) w := by kernel_rfl
theorem zero36 (w : World) : (zeroValue 36).run Try.prog w = .ok (.agg Z36) w := by kernel_rfl
theorem Z30_at (i : Nat) (h : i < 257) : Z30[i]? = some (.float .f64 0) := by unfold Z30; simp [h]
theorem Z36_s (i : Nat) (h : i < 256) : Z36[i]? = some (.float .f64 0) := by
  unfold Z36
  rw [Array.getElem?_append_left (by simp; omega), Array.getElem?_append_left (by simp; omega)]; simp [h]
theorem Z36_i (i : Nat) (h : i < 256) : Z36[256 + i]? = some (.int .u64 0) := by
  unfold Z36
  rw [Array.getElem?_append_left (by simp; omega), Array.getElem?_append_right (by simp)]; simp [h]
theorem Z36_h (i : Nat) (h : i < 257) : Z36[512 + i]? = some (.float .f64 0) := by
  unfold Z36
  rw [Array.getElem?_append_right (by simp)]; simp [h]

/-- What lies in the two blocks. -/
structure St (w W : World) (fx fs fi fh : Nat → Nat) : Prop where
  bel : Below w.heap.size w W
  x : ∀ i, i < 257 → W.cell? ⟨w.heap.size, i, none⟩ = some (.float .f64 (fx i))
  s : ∀ i, i < 256 → W.cell? ⟨w.heap.size + 1, i, none⟩ = some (.float .f64 (fs i))
  i : ∀ i, i < 256 → W.cell? ⟨w.heap.size + 1, 256 + i, none⟩ = some (.int .u64 (fi i))
  h : ∀ i, i < 257 → W.cell? ⟨w.heap.size + 1, 512 + i, none⟩ = some (.float .f64 (fh i))
  frx : ∀ o, W.frozen? ⟨w.heap.size, o, none⟩ = false
  frz : ∀ o, W.frozen? ⟨w.heap.size + 1, o, none⟩ = false

def upd (f : Nat → Nat) (i a : Nat) : Nat → Nat := fun j => if j = i then a else f j

theorem St.start (w : World) : St w ((w.alloc (.cells Z30 30)).alloc (.cells Z36 36)) (fun _ => 0) (fun _ => 0) (fun _ => 0) (fun _ => 0) where
  bel := ((Below.refl _ _).alloc (Nat.le_refl _) _).alloc (by simp) _
  x i h := by
    rw [World.cell?_alloc_past _ _ _ (by simp), World.cell?_alloc_at _ _ _ _ rfl]; exact Z30_at i h
  s i h := by rw [World.cell?_alloc_at _ _ _ _ (by simp)]; exact Z36_s i h
  i i h := by rw [World.cell?_alloc_at _ _ _ _ (by simp)]; exact Z36_i i h
  h i h := by rw [World.cell?_alloc_at _ _ _ _ (by simp)]; exact Z36_h i h
  frx o := by rw [World.frozen?_alloc_past _ _ _ (by simp)]; exact World.frozen?_alloc_at _ _ _ _ rfl
  frz o := World.frozen?_alloc_at _ _ _ _ (by simp)

section
variable {w W : World} {fx fs fi fh : Nat → Nat}
theorem St.drew (h : St w W fx fs fi fh) : St w W.drew fx fs fi fh := ⟨h.bel.drew, h.x, h.s, h.i, h.h, h.frx, h.frz⟩

theorem set_row {W : World} {b k a : Nat} {mk : Nat → Value} {f : Nat → Nat} {off n : Nat} (h : ∀ i, i < n → W.cell? ⟨b, off + i, none⟩ = some (mk (f i))) (hk : k < n) (i : Nat) (hi : i < n) :
    (W.setCell ⟨b, off + k, none⟩ (mk a)).cell? ⟨b, off + i, none⟩ = some (mk (upd f k a i)) := by
  unfold upd
  by_cases e : i = k
  · subst e
    rw [World.cell?_setCell_same W _ _ (h i hi), if_pos rfl]
  · rw [World.cell?_setCell_other W _ _ _ (by intro hh; injection hh; omega), if_neg e, h i hi]
theorem set_far {W : World} {b b' k i : Nat} {v : Value} {r : Option Value} (h : W.cell? ⟨b', i, none⟩ = r) (hne : b ≠ b' ∨ k ≠ i) : (W.setCell ⟨b, k, none⟩ v).cell? ⟨b', i, none⟩ = r := by
  rw [World.cell?_setCell_other W _ _ _ (by intro hh; injection hh; omega), h]

theorem St.setX (h : St w W fx fs fi fh) (k a : Nat) (hk : k < 257) : St w (W.setCell ⟨w.heap.size, k, none⟩ (.float .f64 a)) (upd fx k a) fs fi fh where
  bel := h.bel.setCell (Nat.le_refl _) _
  x i hi := by have := set_row (mk := .float .f64) (off := 0) (a := a) (by simpa using h.x) hk i hi; simpa using this
  s i hi := set_far (h.s i hi) (by omega)
  i i hi := set_far (h.i i hi) (by omega)
  h i hi := set_far (h.h i hi) (by omega)
  frx o := by rw [World.frozen?_setCell]; exact h.frx o
  frz o := by rw [World.frozen?_setCell]; exact h.frz o
theorem St.setS (h : St w W fx fs fi fh) (k a : Nat) (hk : k < 256) : St w (W.setCell ⟨w.heap.size + 1, k, none⟩ (.float .f64 a)) fx (upd fs k a) fi fh where
  bel := h.bel.setCell (by simp) _
  x i hi := set_far (h.x i hi) (by omega)
  s i hi := by have := set_row (mk := .float .f64) (off := 0) (a := a) (by simpa using h.s) hk i hi; simpa using this
  i i hi := set_far (h.i i hi) (by omega)
  h i hi := set_far (h.h i hi) (by omega)
  frx o := by rw [World.frozen?_setCell]; exact h.frx o
  frz o := by rw [World.frozen?_setCell]; exact h.frz o
theorem St.setI (h : St w W fx fs fi fh) (k a : Nat) (hk : k < 256) : St w (W.setCell ⟨w.heap.size + 1, 256 + k, none⟩ (.int .u64 (a : Int))) fx fs (upd fi k a) fh where
  bel := h.bel.setCell (by simp) _
  x i hi := set_far (h.x i hi) (by omega)
  s i hi := set_far (h.s i hi) (by omega)
  i i hi := set_row (mk := fun n => .int .u64 (n : Int)) (a := a) h.i hk i hi
  h i hi := set_far (h.h i hi) (by omega)
  frx o := by rw [World.frozen?_setCell]; exact h.frx o
  frz o := by rw [World.frozen?_setCell]; exact h.frz o
theorem St.setH (h : St w W fx fs fi fh) (k a : Nat) (hk : k < 257) : St w (W.setCell ⟨w.heap.size + 1, 512 + k, none⟩ (.float .f64 a)) fx fs fi (upd fh k a) where
  bel := h.bel.setCell (by simp) _
  x i hi := set_far (h.x i hi) (by omega)
  s i hi := set_far (h.s i hi) (by omega)
  i i hi := set_far (h.i i hi) (by omega)
  h i hi := set_row (mk := .float .f64) (a := a) h.h hk i hi
  frx o := by rw [World.frozen?_setCell]; exact h.frx o
  frz o := by rw [World.frozen?_setCell]; exact h.frz o
theorem St.congr (h : St w W fx fs fi fh) {gx gs gi gh : Nat → Nat} (e1 : ∀ i, i < 257 → fx i = gx i) (e2 : ∀ i, i < 256 → fs i = gs i) (e3 : ∀ i, i < 256 → fi i = gi i) (e4 : ∀ i, i < 257 → fh i = gh i) : St w W gx gs gi gh :=
  ⟨h.bel, fun i hi => by rw [← e1 i hi]; exact h.x i hi, fun i hi => by rw [← e2 i hi]; exact h.s i hi, fun i hi => by rw [← e3 i hi]; exact h.i i hi, fun i hi => by rw [← e4 i hi]; exact h.h i hi, h.frx, h.frz⟩
end

theorem run_store_float (P : Program) (w : World) (a : Addr) (m : Mode) (x : Nat) : (store a (.float .f64 x) m).run P w = stored P w a (.float .f64 x) m := run_store P w a _ m rfl

theorem id_any (x : Nat) (w : World) : Calls Try.prog 10 #[.float .f64 x] w fun e w' => e = .returned (.float .f64 x) ∧ w' = w := by
  go_enter Try.func10, Try.ntmps10
  go_wp2
  go_ret
  exact ⟨rfl, rfl⟩
end Go.Proofs.Qxb6603583a

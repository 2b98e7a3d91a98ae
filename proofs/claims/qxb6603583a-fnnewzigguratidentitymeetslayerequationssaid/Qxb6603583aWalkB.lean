/-
  'ZZzigScale', 'ZZzigInner', 'ZZzigHeight': an array out of the ziggurat, by value. By an AI agent.
-/
import Derived.Test.Qxb6603583aWalkA
import Derived.Deep.MidRow
import Derived.Deep.WholeRow
namespace Go.Proofs.Qxb6603583a
open Go.RowKit
set_option linter.unusedVariables false

/-- A row of n values. -/
def row (mk : Nat → Value) (n : Nat) : List Value := (List.range n).map mk
theorem row_length (mk : Nat → Value) (n : Nat) : (row mk n).length = n := by simp [row]
theorem row_at (mk : Nat → Value) (n j : Nat) (h : j < n) : (row mk n)[j]? = some (mk j) := by simp [row, h]
theorem row_range {w : World} {b o n : Nat} {mk : Nat → Value} (h : ∀ i, i < n → w.cell? ⟨b, o + i, none⟩ = some (mk i)) : w.rangeAt b o (row mk n) := fun j v hv => by
  have hj : j < n := by have := (List.getElem?_eq_some_iff.1 hv).1; rwa [row_length] at this
  rw [row_at mk n j hj] at hv
  cases hv
  exact h j hj
theorem row_one (mk : Nat → Value) (n : Nat) (h : ∀ i, (mk i).oneCell' = true) : ∀ v ∈ row mk n, v.oneCell' = true := by
  intro v hv
  simp only [row, List.mem_map] at hv
  obtain ⟨i, _, rfl⟩ := hv
  exact h i

def Z25 : Array Value := Array.replicate 256 (.float .f64 0)
def Z28 : Array Value := Array.replicate 256 (.int .u64 0)
theorem info25 : (Try.prog.info? 25).map (fun i => (i.zero, i.size)) = some (some (.agg Z25), 256) := by kernel_rfl
theorem info28 : (Try.prog.info? 28).map (fun i => (i.zero, i.size)) = some (some (.agg Z28), 256) := by kernel_rfl
theorem info30 : (Try.prog.info? 30).map (fun i => (i.zero, i.size)) = some (some (.agg Z30), 257) := by kernel_rfl

set_option maxHeartbeats 400000 in
set_option maxRecDepth 100000 in
theorem scale_any (b : Nat) (cs : List Value) (hl : cs.length = 256) (h1 : ∀ v ∈ cs, v.oneCell' = true) (w : World) (hc : w.rangeAt b 0 cs) :
    Calls Try.prog 6 #[.pointer (some ⟨b, 0, none⟩)] w fun e w' => e = .returned (.agg cs.toArray) ∧ w' = w.alloc (.cells cs.toArray 25) := by
  have zz := (zero_of_info info25).1
  have HS := hide (zero_of_info info25).2
  have HC := hide (World.rangeAt_alloc hc (.cells Z25 25))
  have H1 := hide (all_oneCell_toArray h1)
  clear hc h1
  go_enter Try.func6, Try.ntmps6
  go_wp2_with (first
    | (refine wpList_load_mid rfl 25 _ rfl b 0 rfl cs _ (unhide HC) Try.underlying25 rfl (by rw [hl]; exact unhide HS) ?_)
    | (refine wpList_store_row rfl 25 _ _ rfl w.heap.size cs.toArray rfl rfl 25 Z25 (heap_alloc_last w _) (by simp only [List.size_toArray, hl]; exact unhide HS) (by simp [hl, Z25]) (unhide H1) ?_; rw [World.setRow_alloc_new]))
  exact bodyPost_ret (v := .agg cs.toArray) (results_cell_row (p := 2) (by kernel_rfl) _ _ w.heap.size 25 cs.toArray (0, 0) _ rfl (heap_alloc_last w _) Try.underlying25 rfl (by simp only [List.size_toArray, hl]; exact unhide HS)) rfl ⟨rfl, rfl⟩

set_option maxHeartbeats 400000 in
set_option maxRecDepth 100000 in
theorem inner_any (b : Nat) (cs : List Value) (hl : cs.length = 256) (h1 : ∀ v ∈ cs, v.oneCell' = true) (w : World) (hc : w.rangeAt b 256 cs) :
    Calls Try.prog 7 #[.pointer (some ⟨b, 0, none⟩)] w fun e w' => e = .returned (.agg cs.toArray) ∧ w' = w.alloc (.cells cs.toArray 28) := by
  have zz := (zero_of_info info28).1
  have HS := hide (zero_of_info info28).2
  have HC := hide (World.rangeAt_alloc hc (.cells Z28 28))
  have H1 := hide (all_oneCell_toArray h1)
  clear hc h1
  go_enter Try.func7, Try.ntmps7
  go_wp2_with (first
    | (refine wpList_load_mid rfl 28 _ rfl b 256 rfl cs _ (unhide HC) Try.underlying28 rfl (by rw [hl]; exact unhide HS) ?_)
    | (refine wpList_store_row rfl 28 _ _ rfl w.heap.size cs.toArray rfl rfl 28 Z28 (heap_alloc_last w _) (by simp only [List.size_toArray, hl]; exact unhide HS) (by simp [hl, Z28]) (unhide H1) ?_; rw [World.setRow_alloc_new]))
  exact bodyPost_ret (v := .agg cs.toArray) (results_cell_row (p := 2) (by kernel_rfl) _ _ w.heap.size 28 cs.toArray (0, 0) _ rfl (heap_alloc_last w _) Try.underlying28 rfl (by simp only [List.size_toArray, hl]; exact unhide HS)) rfl ⟨rfl, rfl⟩

set_option maxHeartbeats 400000 in
set_option maxRecDepth 100000 in
theorem height_any (b : Nat) (cs : List Value) (hl : cs.length = 257) (h1 : ∀ v ∈ cs, v.oneCell' = true) (w : World) (hc : w.rangeAt b 512 cs) :
    Calls Try.prog 8 #[.pointer (some ⟨b, 0, none⟩)] w fun e w' => e = .returned (.agg cs.toArray) ∧ w' = w.alloc (.cells cs.toArray 30) := by
  have zz := (zero_of_info info30).1
  have HS := hide (zero_of_info info30).2
  have HC := hide (World.rangeAt_alloc hc (.cells Z30 30))
  have H1 := hide (all_oneCell_toArray h1)
  clear hc h1
  go_enter Try.func8, Try.ntmps8
  go_wp2_with (first
    | (refine wpList_load_mid rfl 30 _ rfl b 512 rfl cs _ (unhide HC) Try.underlying30 rfl (by rw [hl]; exact unhide HS) ?_)
    | (refine wpList_store_row rfl 30 _ _ rfl w.heap.size cs.toArray rfl rfl 30 Z30 (heap_alloc_last w _) (by simp only [List.size_toArray, hl]; exact unhide HS) (by simp [hl, Z30]) (unhide H1) ?_; rw [World.setRow_alloc_new]))
  exact bodyPost_ret (v := .agg cs.toArray) (results_cell_row (p := 2) (by kernel_rfl) _ _ w.heap.size 30 cs.toArray (0, 0) _ rfl (heap_alloc_last w _) Try.underlying30 rfl (by simp only [List.size_toArray, hl]; exact unhide HS)) rfl ⟨rfl, rfl⟩

end Go.Proofs.Qxb6603583a

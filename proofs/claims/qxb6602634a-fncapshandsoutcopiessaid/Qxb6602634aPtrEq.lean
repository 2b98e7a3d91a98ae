/-
  Two pointers into two plain blocks are not equal. By an AI agent.
-/
import Derived.Test.Qxb6602634aLive
namespace Go.Proofs.Qxb6602634a
open Go.RowKit
theorem eql_other {T te : TypeId} {j : TypeInfo} {w : World} {a b : Nat} (hp : Try.prog.underlying T = some (.pointer te)) (hte : Try.prog.info? te = some j) (hsz : j.size ≠ 0) (hne : a ≠ b) (ha : Plain w a) (hb : Plain w b) :
    (binOp .eql T (.pointer (some ⟨a, 0, none⟩)) (.pointer (some ⟨b, 0, none⟩))).run Try.prog w = .ok (.bool false) w := by
  obtain ⟨ca, ta, ha⟩ := ha
  obtain ⟨cb, tb, hb⟩ := hb
  have hs := run_sameAddr_other (P := Try.prog) (a := ⟨a, 0, none⟩) (b := ⟨b, 0, none⟩) w (by intro h; injection h; contradiction) ha hb
  have h : ∀ d : Nat, (Op.equalIn (d + 1) T (.pointer (some ⟨a, 0, none⟩)) (.pointer (some ⟨b, 0, none⟩))).run Try.prog w = .ok false w := fun d => by simp [Op.equalIn, run_underlying hp, typeInfo, sizeOf, hte, hsz, hs]
  simp only [binOp]
  simp [Op.equal, Op.maxDepth, h 9999]
theorem eql_28 {w : World} {a b : Nat} (hne : a ≠ b) (ha : Plain w a) (hb : Plain w b) : (binOp .eql 28 (.pointer (some ⟨a, 0, none⟩)) (.pointer (some ⟨b, 0, none⟩))).run Try.prog w = .ok (.bool false) w :=
  eql_other (te := Try.prog.pointee 28) rfl rfl (by decide) hne ha hb
theorem eql_29 {w : World} {a b : Nat} (hne : a ≠ b) (ha : Plain w a) (hb : Plain w b) : (binOp .eql 29 (.pointer (some ⟨a, 0, none⟩)) (.pointer (some ⟨b, 0, none⟩))).run Try.prog w = .ok (.bool false) w :=
  eql_other (te := Try.prog.pointee 29) rfl rfl (by decide) hne ha hb
theorem eql_30 {w : World} {a b : Nat} (hne : a ≠ b) (ha : Plain w a) (hb : Plain w b) : (binOp .eql 30 (.pointer (some ⟨a, 0, none⟩)) (.pointer (some ⟨b, 0, none⟩))).run Try.prog w = .ok (.bool false) w :=
  eql_other (te := Try.prog.pointee 30) rfl rfl (by decide) hne ha hb
theorem eql_31 {w : World} {a b : Nat} (hne : a ≠ b) (ha : Plain w a) (hb : Plain w b) : (binOp .eql 31 (.pointer (some ⟨a, 0, none⟩)) (.pointer (some ⟨b, 0, none⟩))).run Try.prog w = .ok (.bool false) w :=
  eql_other (te := Try.prog.pointee 31) rfl rfl (by decide) hne ha hb
end Go.Proofs.Qxb6602634a

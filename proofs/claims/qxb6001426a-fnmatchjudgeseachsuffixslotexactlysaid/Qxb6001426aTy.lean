/-
  Closed facts on the types and functions that the roads meet (written by tools/gen_ty.py off the given translation).
-/
import Derived.Test.Qxb6001426aDr
import Derived.Test.Qxb6001426aProg
import Derived.KernelRfl
namespace Go.Proofs.Qxb6001426a
open Fw
namespace Ty
theorem agg9 : aggN Try.prog 9 = some 0 := by kernel_rfl
theorem agg22 : aggN Try.prog 22 = some 0 := by kernel_rfl
theorem sz9 : szOf Try.prog 9 = some 1 := by kernel_rfl
theorem fo45_0 : foff Try.prog 45 0 = some 0 := by kernel_rfl
theorem slN22 : slcN Try.prog 22 = some 1 := by kernel_rfl
theorem slZ22 : slcZ Try.prog 22 = some (9, .string ByteArray.empty, 16, 1) := by kernel_rfl
theorem en9 : entersB Try.prog 9 = true := by kernel_rfl
theorem en10 : entersB Try.prog 10 = true := by kernel_rfl
theorem en11 : entersB Try.prog 11 = true := by kernel_rfl
theorem en12 : entersB Try.prog 12 = true := by kernel_rfl
theorem en13 : entersB Try.prog 13 = true := by kernel_rfl
theorem en14 : entersB Try.prog 14 = true := by kernel_rfl
theorem en15 : entersB Try.prog 15 = true := by kernel_rfl
theorem en28 : entersB Try.prog 28 = true := by kernel_rfl
theorem en30 : entersB Try.prog 30 = true := by kernel_rfl
theorem mixed : Try.prog.follows .mixedOrders = true := by kernel_rfl
theorem all : (aggN Try.prog 9 = some 0) ∧ (aggN Try.prog 22 = some 0) ∧ (szOf Try.prog 9 = some 1) ∧ (foff Try.prog 45 0 = some 0) ∧ (slcN Try.prog 22 = some 1) ∧ (slcZ Try.prog 22 = some (9, .string ByteArray.empty, 16, 1)) ∧ (entersB Try.prog 9 = true) ∧ (entersB Try.prog 10 = true) ∧ (entersB Try.prog 11 = true) ∧ (entersB Try.prog 12 = true) ∧ (entersB Try.prog 13 = true) ∧ (entersB Try.prog 14 = true) ∧ (entersB Try.prog 15 = true) ∧ (entersB Try.prog 28 = true) ∧ (entersB Try.prog 30 = true) ∧ (Try.prog.underlying 3 = some (.int .i64)) ∧ (Try.prog.underlying 9 = some (.string)) ∧ (Try.prog.underlying 22 = some (.slice 9)) :=
  ⟨agg9, agg22, sz9, fo45_0, slN22, slZ22, en9, en10, en11, en12, en13, en14, en15, en28, en30, Try.underlying3, Try.underlying9, Try.underlying22⟩
end Ty
end Go.Proofs.Qxb6001426a

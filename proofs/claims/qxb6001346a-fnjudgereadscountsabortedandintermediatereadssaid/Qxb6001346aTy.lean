/-
  Closed facts on the types and functions that the roads meet (written by tools/gen_ty.py off the given translation).
-/
import Derived.Test.Qxb6001346aDr
import Derived.Test.Qxb6001346aProg
import Derived.KernelRfl
namespace Go.Proofs.Qxb6001346a
open Fw
namespace Ty
theorem agg3 : aggN Try.prog 3 = some 0 := by kernel_rfl
theorem agg4 : aggN Try.prog 4 = some 0 := by kernel_rfl
theorem agg9 : aggN Try.prog 9 = some 0 := by kernel_rfl
theorem agg21 : aggN Try.prog 21 = some 0 := by kernel_rfl
theorem agg22 : aggN Try.prog 22 = some 0 := by kernel_rfl
theorem agg30 : aggN Try.prog 30 = some 0 := by kernel_rfl
theorem agg31 : aggN Try.prog 31 = some 0 := by kernel_rfl
theorem agg37 : aggN Try.prog 37 = some 0 := by kernel_rfl
theorem agg40 : aggN Try.prog 40 = some 4 := by kernel_rfl
theorem agg42 : aggN Try.prog 42 = some 0 := by kernel_rfl
theorem agg47 : aggN Try.prog 47 = some 0 := by kernel_rfl
theorem agg54 : aggN Try.prog 54 = some 4 := by kernel_rfl
theorem agg65 : aggN Try.prog 65 = some 0 := by kernel_rfl
theorem agg66 : aggN Try.prog 66 = some 0 := by kernel_rfl
theorem agg67 : aggN Try.prog 67 = some 0 := by kernel_rfl
theorem agg75 : aggN Try.prog 75 = some 0 := by kernel_rfl
theorem agg77 : aggN Try.prog 77 = some 5 := by kernel_rfl
theorem agg78 : aggN Try.prog 78 = some 0 := by kernel_rfl
theorem agg79 : aggN Try.prog 79 = some 4 := by kernel_rfl
theorem agg80 : aggN Try.prog 80 = some 0 := by kernel_rfl
theorem agg84 : aggN Try.prog 84 = some 0 := by kernel_rfl
theorem sz3 : szOf Try.prog 3 = some 1 := by kernel_rfl
theorem sz4 : szOf Try.prog 4 = some 1 := by kernel_rfl
theorem sz9 : szOf Try.prog 9 = some 1 := by kernel_rfl
theorem sz21 : szOf Try.prog 21 = some 1 := by kernel_rfl
theorem sz22 : szOf Try.prog 22 = some 1 := by kernel_rfl
theorem sz30 : szOf Try.prog 30 = some 1 := by kernel_rfl
theorem sz31 : szOf Try.prog 31 = some 1 := by kernel_rfl
theorem sz40 : szOf Try.prog 40 = some 4 := by kernel_rfl
theorem sz49 : szOf Try.prog 49 = some 2 := by kernel_rfl
theorem sz54 : szOf Try.prog 54 = some 4 := by kernel_rfl
theorem sz66 : szOf Try.prog 66 = some 1 := by kernel_rfl
theorem sz67 : szOf Try.prog 67 = some 1 := by kernel_rfl
theorem sz72 : szOf Try.prog 72 = some 1 := by kernel_rfl
theorem sz77 : szOf Try.prog 77 = some 5 := by kernel_rfl
theorem sz79 : szOf Try.prog 79 = some 4 := by kernel_rfl
theorem sz82 : szOf Try.prog 82 = some 5 := by kernel_rfl
theorem fo40_0 : foff Try.prog 40 0 = some 0 := by kernel_rfl
theorem fo40_1 : foff Try.prog 40 1 = some 1 := by kernel_rfl
theorem fo40_2 : foff Try.prog 40 2 = some 2 := by kernel_rfl
theorem fo40_3 : foff Try.prog 40 3 = some 3 := by kernel_rfl
theorem fo49_0 : foff Try.prog 49 0 = some 0 := by kernel_rfl
theorem fo49_1 : foff Try.prog 49 1 = some 1 := by kernel_rfl
theorem fo54_0 : foff Try.prog 54 0 = some 0 := by kernel_rfl
theorem fo54_1 : foff Try.prog 54 1 = some 1 := by kernel_rfl
theorem fo54_2 : foff Try.prog 54 2 = some 2 := by kernel_rfl
theorem fo54_3 : foff Try.prog 54 3 = some 3 := by kernel_rfl
theorem fo70_1 : foff Try.prog 70 1 = some 1 := by kernel_rfl
theorem fo70_2 : foff Try.prog 70 2 = some 2 := by kernel_rfl
theorem fo74_0 : foff Try.prog 74 0 = some 0 := by kernel_rfl
theorem fo74_1 : foff Try.prog 74 1 = some 1 := by kernel_rfl
theorem fo74_2 : foff Try.prog 74 2 = some 2 := by kernel_rfl
theorem fo74_3 : foff Try.prog 74 3 = some 3 := by kernel_rfl
theorem fo74_4 : foff Try.prog 74 4 = some 4 := by kernel_rfl
theorem fo74_5 : foff Try.prog 74 5 = some 5 := by kernel_rfl
theorem fo74_6 : foff Try.prog 74 6 = some 6 := by kernel_rfl
theorem fo74_7 : foff Try.prog 74 7 = some 7 := by kernel_rfl
theorem fo74_8 : foff Try.prog 74 8 = some 8 := by kernel_rfl
theorem fo74_9 : foff Try.prog 74 9 = some 35 := by kernel_rfl
theorem fo77_0 : foff Try.prog 77 0 = some 0 := by kernel_rfl
theorem fo77_1 : foff Try.prog 77 1 = some 1 := by kernel_rfl
theorem fo77_2 : foff Try.prog 77 2 = some 2 := by kernel_rfl
theorem fo77_3 : foff Try.prog 77 3 = some 3 := by kernel_rfl
theorem fo77_4 : foff Try.prog 77 4 = some 4 := by kernel_rfl
theorem fo79_0 : foff Try.prog 79 0 = some 0 := by kernel_rfl
theorem fo79_1 : foff Try.prog 79 1 = some 1 := by kernel_rfl
theorem fo79_2 : foff Try.prog 79 2 = some 2 := by kernel_rfl
theorem fo79_3 : foff Try.prog 79 3 = some 3 := by kernel_rfl
theorem fo82_1 : foff Try.prog 82 1 = some 1 := by kernel_rfl
theorem fo82_2 : foff Try.prog 82 2 = some 2 := by kernel_rfl
theorem fo86_0 : foff Try.prog 86 0 = some 0 := by kernel_rfl
theorem fo86_1 : foff Try.prog 86 1 = some 1 := by kernel_rfl
theorem fo86_2 : foff Try.prog 86 2 = some 2 := by kernel_rfl
theorem fo86_3 : foff Try.prog 86 3 = some 3 := by kernel_rfl
theorem slN22 : slcN Try.prog 22 = some 1 := by kernel_rfl
theorem slN30 : slcN Try.prog 30 = some 1 := by kernel_rfl
theorem slN31 : slcN Try.prog 31 = some 1 := by kernel_rfl
theorem slN32 : slcN Try.prog 32 = some 2 := by kernel_rfl
theorem slN37 : slcN Try.prog 37 = some 5 := by kernel_rfl
theorem slN42 : slcN Try.prog 42 = some 1 := by kernel_rfl
theorem slN47 : slcN Try.prog 47 = some 4 := by kernel_rfl
theorem slN50 : slcN Try.prog 50 = some 1 := by kernel_rfl
theorem slN67 : slcN Try.prog 67 = some 5 := by kernel_rfl
theorem slN71 : slcN Try.prog 71 = none := by kernel_rfl
theorem slN78 : slcN Try.prog 78 = some 4 := by kernel_rfl
theorem arN71 : arrN Try.prog 71 = some (9, 3) := by kernel_rfl
theorem slZ22 : slcZ Try.prog 22 = some (21, .int .i32 0, 4, 1) := by kernel_rfl
theorem slZ30 : slcZ Try.prog 30 = some (3, .int .i64 0, 8, 1) := by kernel_rfl
theorem slZ31 : slcZ Try.prog 31 = some (4, .bool false, 1, 1) := by kernel_rfl
theorem slZ32 : slcZ Try.prog 32 = some (49, .agg #[.int .i64 0, .slice none 0 0], 32, 2) := by kernel_rfl
theorem slZ37 : slcZ Try.prog 37 = some (82, .agg #[.int .i64 0, .slice none 0 0, .int .i64 0, .int .i64 0, .int .i64 0], 56, 5) := by kernel_rfl
theorem slZ42 : slcZ Try.prog 42 = some (9, .string ByteArray.empty, 16, 1) := by kernel_rfl
theorem slZ47 : slcZ Try.prog 47 = some (54, .agg #[.bool false, .string ByteArray.empty, .string ByteArray.empty, .slice none 0 0], 64, 4) := by kernel_rfl
theorem slZ50 : slcZ Try.prog 50 = some (30, .slice none 0 0, 24, 1) := by kernel_rfl
theorem slZ66 : slcZ Try.prog 66 = some (75, .pointer none, 8, 1) := by kernel_rfl
theorem slZ67 : slcZ Try.prog 67 = some (77, .agg #[.int .i32 0, .pointer none, .int .i32 0, .int .i32 0, .bool false], 32, 5) := by kernel_rfl
theorem slZ72 : slcZ Try.prog 72 = some (115, .agg #[.int .i32 0, .int .i32 0, .int .u8 0], 12, 3) := by kernel_rfl
theorem slZ78 : slcZ Try.prog 78 = some (79, .agg #[.bool false, .string ByteArray.empty, .string ByteArray.empty, .slice none 0 0], 64, 4) := by kernel_rfl
theorem mpZ65 : mapZ Try.prog 65 = some (.pointer none) := by kernel_rfl
theorem mpZ84 : mapZ Try.prog 84 = some (.int .i32 0) := by kernel_rfl
theorem zr40 : zeroOf Try.prog 40 = some (.agg #[.slice none 0 0, .slice none 0 0, .slice none 0 0, .slice none 0 0]) := by kernel_rfl
theorem zr54 : zeroOf Try.prog 54 = some (.agg #[.bool false, .string ByteArray.empty, .string ByteArray.empty, .slice none 0 0]) := by kernel_rfl
theorem zr77 : zeroOf Try.prog 77 = some (.agg #[.int .i32 0, .pointer none, .int .i32 0, .int .i32 0, .bool false]) := by kernel_rfl
theorem zr79 : zeroOf Try.prog 79 = some (.agg #[.bool false, .string ByteArray.empty, .string ByteArray.empty, .slice none 0 0]) := by kernel_rfl
theorem en19 : entersB Try.prog 19 = true := by kernel_rfl
theorem en20 : entersB Try.prog 20 = true := by kernel_rfl
theorem en21 : entersB Try.prog 21 = true := by kernel_rfl
theorem en22 : entersB Try.prog 22 = true := by kernel_rfl
theorem en23 : entersB Try.prog 23 = true := by kernel_rfl
theorem en24 : entersB Try.prog 24 = true := by kernel_rfl
theorem en25 : entersB Try.prog 25 = true := by kernel_rfl
theorem en26 : entersB Try.prog 26 = true := by kernel_rfl
theorem en27 : entersB Try.prog 27 = true := by kernel_rfl
theorem en28 : entersB Try.prog 28 = true := by kernel_rfl
theorem en29 : entersB Try.prog 29 = true := by kernel_rfl
theorem en30 : entersB Try.prog 30 = true := by kernel_rfl
theorem en31 : entersB Try.prog 31 = true := by kernel_rfl
theorem en32 : entersB Try.prog 32 = true := by kernel_rfl
theorem en33 : entersB Try.prog 33 = true := by kernel_rfl
theorem en34 : entersB Try.prog 34 = true := by kernel_rfl
theorem en35 : entersB Try.prog 35 = true := by kernel_rfl
theorem en36 : entersB Try.prog 36 = true := by kernel_rfl
theorem en38 : entersB Try.prog 38 = true := by kernel_rfl
theorem en39 : entersB Try.prog 39 = true := by kernel_rfl
theorem en40 : entersB Try.prog 40 = true := by kernel_rfl
theorem en41 : entersB Try.prog 41 = true := by kernel_rfl
theorem en44 : entersB Try.prog 44 = true := by kernel_rfl
theorem en45 : entersB Try.prog 45 = true := by kernel_rfl
theorem en46 : entersB Try.prog 46 = true := by kernel_rfl
theorem mixed : Try.prog.follows .mixedOrders = true := by kernel_rfl
theorem all : (aggN Try.prog 3 = some 0) ∧ (aggN Try.prog 4 = some 0) ∧ (aggN Try.prog 9 = some 0) ∧ (aggN Try.prog 21 = some 0) ∧ (aggN Try.prog 22 = some 0) ∧ (aggN Try.prog 30 = some 0) ∧ (aggN Try.prog 31 = some 0) ∧ (aggN Try.prog 37 = some 0) ∧ (aggN Try.prog 40 = some 4) ∧ (aggN Try.prog 42 = some 0) ∧ (aggN Try.prog 47 = some 0) ∧ (aggN Try.prog 54 = some 4) ∧ (aggN Try.prog 65 = some 0) ∧ (aggN Try.prog 66 = some 0) ∧ (aggN Try.prog 67 = some 0) ∧ (aggN Try.prog 75 = some 0) ∧ (aggN Try.prog 77 = some 5) ∧ (aggN Try.prog 78 = some 0) ∧ (aggN Try.prog 79 = some 4) ∧ (aggN Try.prog 80 = some 0) ∧ (aggN Try.prog 84 = some 0) ∧ (szOf Try.prog 3 = some 1) ∧ (szOf Try.prog 4 = some 1) ∧ (szOf Try.prog 9 = some 1) ∧ (szOf Try.prog 21 = some 1) ∧ (szOf Try.prog 22 = some 1) ∧ (szOf Try.prog 30 = some 1) ∧ (szOf Try.prog 31 = some 1) ∧ (szOf Try.prog 40 = some 4) ∧ (szOf Try.prog 49 = some 2) ∧ (szOf Try.prog 54 = some 4) ∧ (szOf Try.prog 66 = some 1) ∧ (szOf Try.prog 67 = some 1) ∧ (szOf Try.prog 72 = some 1) ∧ (szOf Try.prog 77 = some 5) ∧ (szOf Try.prog 79 = some 4) ∧ (szOf Try.prog 82 = some 5) ∧ (foff Try.prog 40 0 = some 0) ∧ (foff Try.prog 40 1 = some 1) ∧ (foff Try.prog 40 2 = some 2) ∧ (foff Try.prog 40 3 = some 3) ∧ (foff Try.prog 49 0 = some 0) ∧ (foff Try.prog 49 1 = some 1) ∧ (foff Try.prog 54 0 = some 0) ∧ (foff Try.prog 54 1 = some 1) ∧ (foff Try.prog 54 2 = some 2) ∧ (foff Try.prog 54 3 = some 3) ∧ (foff Try.prog 70 1 = some 1) ∧ (foff Try.prog 70 2 = some 2) ∧ (foff Try.prog 74 0 = some 0) ∧ (foff Try.prog 74 1 = some 1) ∧ (foff Try.prog 74 2 = some 2) ∧ (foff Try.prog 74 3 = some 3) ∧ (foff Try.prog 74 4 = some 4) ∧ (foff Try.prog 74 5 = some 5) ∧ (foff Try.prog 74 6 = some 6) ∧ (foff Try.prog 74 7 = some 7) ∧ (foff Try.prog 74 8 = some 8) ∧ (foff Try.prog 74 9 = some 35) ∧ (foff Try.prog 77 0 = some 0) ∧ (foff Try.prog 77 1 = some 1) ∧ (foff Try.prog 77 2 = some 2) ∧ (foff Try.prog 77 3 = some 3) ∧ (foff Try.prog 77 4 = some 4) ∧ (foff Try.prog 79 0 = some 0) ∧ (foff Try.prog 79 1 = some 1) ∧ (foff Try.prog 79 2 = some 2) ∧ (foff Try.prog 79 3 = some 3) ∧ (foff Try.prog 82 1 = some 1) ∧ (foff Try.prog 82 2 = some 2) ∧ (foff Try.prog 86 0 = some 0) ∧ (foff Try.prog 86 1 = some 1) ∧ (foff Try.prog 86 2 = some 2) ∧ (foff Try.prog 86 3 = some 3) ∧ (slcN Try.prog 22 = some 1) ∧ (slcN Try.prog 30 = some 1) ∧ (slcN Try.prog 31 = some 1) ∧ (slcN Try.prog 32 = some 2) ∧ (slcN Try.prog 37 = some 5) ∧ (slcN Try.prog 42 = some 1) ∧ (slcN Try.prog 47 = some 4) ∧ (slcN Try.prog 50 = some 1) ∧ (slcN Try.prog 67 = some 5) ∧ (slcN Try.prog 71 = none) ∧ (slcN Try.prog 78 = some 4) ∧ (arrN Try.prog 71 = some (9, 3)) ∧ (slcZ Try.prog 22 = some (21, .int .i32 0, 4, 1)) ∧ (slcZ Try.prog 30 = some (3, .int .i64 0, 8, 1)) ∧ (slcZ Try.prog 31 = some (4, .bool false, 1, 1)) ∧ (slcZ Try.prog 32 = some (49, .agg #[.int .i64 0, .slice none 0 0], 32, 2)) ∧ (slcZ Try.prog 37 = some (82, .agg #[.int .i64 0, .slice none 0 0, .int .i64 0, .int .i64 0, .int .i64 0], 56, 5)) ∧ (slcZ Try.prog 42 = some (9, .string ByteArray.empty, 16, 1)) ∧ (slcZ Try.prog 47 = some (54, .agg #[.bool false, .string ByteArray.empty, .string ByteArray.empty, .slice none 0 0], 64, 4)) ∧ (slcZ Try.prog 50 = some (30, .slice none 0 0, 24, 1)) ∧ (slcZ Try.prog 66 = some (75, .pointer none, 8, 1)) ∧ (slcZ Try.prog 67 = some (77, .agg #[.int .i32 0, .pointer none, .int .i32 0, .int .i32 0, .bool false], 32, 5)) ∧ (slcZ Try.prog 72 = some (115, .agg #[.int .i32 0, .int .i32 0, .int .u8 0], 12, 3)) ∧ (slcZ Try.prog 78 = some (79, .agg #[.bool false, .string ByteArray.empty, .string ByteArray.empty, .slice none 0 0], 64, 4)) ∧ (mapZ Try.prog 65 = some (.pointer none)) ∧ (mapZ Try.prog 84 = some (.int .i32 0)) ∧ (zeroOf Try.prog 40 = some (.agg #[.slice none 0 0, .slice none 0 0, .slice none 0 0, .slice none 0 0])) ∧ (zeroOf Try.prog 54 = some (.agg #[.bool false, .string ByteArray.empty, .string ByteArray.empty, .slice none 0 0])) ∧ (zeroOf Try.prog 77 = some (.agg #[.int .i32 0, .pointer none, .int .i32 0, .int .i32 0, .bool false])) ∧ (zeroOf Try.prog 79 = some (.agg #[.bool false, .string ByteArray.empty, .string ByteArray.empty, .slice none 0 0])) ∧ (entersB Try.prog 19 = true) ∧ (entersB Try.prog 20 = true) ∧ (entersB Try.prog 21 = true) ∧ (entersB Try.prog 22 = true) ∧ (entersB Try.prog 23 = true) ∧ (entersB Try.prog 24 = true) ∧ (entersB Try.prog 25 = true) ∧ (entersB Try.prog 26 = true) ∧ (entersB Try.prog 27 = true) ∧ (entersB Try.prog 28 = true) ∧ (entersB Try.prog 29 = true) ∧ (entersB Try.prog 30 = true) ∧ (entersB Try.prog 31 = true) ∧ (entersB Try.prog 32 = true) ∧ (entersB Try.prog 33 = true) ∧ (entersB Try.prog 34 = true) ∧ (entersB Try.prog 35 = true) ∧ (entersB Try.prog 36 = true) ∧ (entersB Try.prog 38 = true) ∧ (entersB Try.prog 39 = true) ∧ (entersB Try.prog 40 = true) ∧ (entersB Try.prog 41 = true) ∧ (entersB Try.prog 44 = true) ∧ (entersB Try.prog 45 = true) ∧ (entersB Try.prog 46 = true) ∧ (Try.prog.underlying 3 = some (.int .i64)) ∧ (Try.prog.underlying 4 = some (.bool)) ∧ (Try.prog.underlying 9 = some (.string)) ∧ (Try.prog.underlying 21 = some (.int .i32)) ∧ (Try.prog.underlying 22 = some (.slice 21)) ∧ (Try.prog.underlying 30 = some (.slice 3)) ∧ (Try.prog.underlying 31 = some (.slice 4)) ∧ (Try.prog.underlying 32 = some (.slice 49)) ∧ (Try.prog.underlying 37 = some (.slice 82)) ∧ (Try.prog.underlying 42 = some (.slice 9)) ∧ (Try.prog.underlying 47 = some (.slice 54)) ∧ (Try.prog.underlying 50 = some (.slice 30)) ∧ (Try.prog.underlying 66 = some (.slice 75)) ∧ (Try.prog.underlying 67 = some (.slice 77)) ∧ (Try.prog.underlying 75 = some (.pointer 86)) ∧ (Try.prog.underlying 78 = some (.slice 79)) ∧ (Try.prog.underlying 80 = some (.int .i64)) :=
  ⟨agg3, agg4, agg9, agg21, agg22, agg30, agg31, agg37, agg40, agg42, agg47, agg54, agg65, agg66, agg67, agg75, agg77, agg78, agg79, agg80, agg84, sz3, sz4, sz9, sz21, sz22, sz30, sz31, sz40, sz49, sz54, sz66, sz67, sz72, sz77, sz79, sz82, fo40_0, fo40_1, fo40_2, fo40_3, fo49_0, fo49_1, fo54_0, fo54_1, fo54_2, fo54_3, fo70_1, fo70_2, fo74_0, fo74_1, fo74_2, fo74_3, fo74_4, fo74_5, fo74_6, fo74_7, fo74_8, fo74_9, fo77_0, fo77_1, fo77_2, fo77_3, fo77_4, fo79_0, fo79_1, fo79_2, fo79_3, fo82_1, fo82_2, fo86_0, fo86_1, fo86_2, fo86_3, slN22, slN30, slN31, slN32, slN37, slN42, slN47, slN50, slN67, slN71, slN78, arN71, slZ22, slZ30, slZ31, slZ32, slZ37, slZ42, slZ47, slZ50, slZ66, slZ67, slZ72, slZ78, mpZ65, mpZ84, zr40, zr54, zr77, zr79, en19, en20, en21, en22, en23, en24, en25, en26, en27, en28, en29, en30, en31, en32, en33, en34, en35, en36, en38, en39, en40, en41, en44, en45, en46, Try.underlying3, Try.underlying4, Try.underlying9, Try.underlying21, Try.underlying22, Try.underlying30, Try.underlying31, Try.underlying32, Try.underlying37, Try.underlying42, Try.underlying47, Try.underlying50, Try.underlying66, Try.underlying67, Try.underlying75, Try.underlying78, Try.underlying80⟩
end Ty
end Go.Proofs.Qxb6001346a

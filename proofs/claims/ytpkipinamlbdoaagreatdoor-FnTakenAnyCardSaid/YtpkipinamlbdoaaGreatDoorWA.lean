/-
  The walks of small functions: rotations, numbers of bytes. Conditions: what is indexed is there.
-/
import Derived.Test.YtpkipinamlbdoaaGreatDoorRows
import Derived.Test.YtpkipinamlbdoaaGreatDoorU
import Derived.Test.YtpkipinamlbdoaaGreatDoorS
import Derived.WalkSpells
import Derived.WalkLawsBesides
import Derived.Deep.QuietTactic
import Derived.BigQuiet
namespace Go.Proofs.YtpkipinamlbdoaaGreatDoor
open Go Go.RowKit
attribute [local go_sem] I32_cvt I8_cvt I32_add I32_and I32_or I32_xor I8_xor I32_notm I32_shr1 I32_shr8 I32_shr16 I32_shr24 I32_shl8 I32_shl16 I32_shl24 I32_beq I32_shl1 I32_shl5 I32_shl30 I32_shr2 I32_shr27 I32_shr31

theorem left1 (x : UInt32) (w : World) : Calls Tryz.prog 49 #[.int .u32 (I32 x), .int .i64 1] w fun e w' => e = .returned (.int .u32 (I32 (rot1 x))) ∧ ∃ m, w' = w.drewN m := by
  go_enter Tryz.func49, Tryz.ntmps49
  go_wp2
  go_quiet (fail)
  go_wp2
  go_ret
  exact ⟨rfl, nq, rfl⟩
theorem left5 (x : UInt32) (w : World) : Calls Tryz.prog 49 #[.int .u32 (I32 x), .int .i64 5] w fun e w' => e = .returned (.int .u32 (I32 (rot5 x))) ∧ ∃ m, w' = w.drewN m := by
  go_enter Tryz.func49, Tryz.ntmps49
  go_wp2
  go_quiet (fail)
  go_wp2
  go_ret
  exact ⟨rfl, nq, rfl⟩
theorem left30 (x : UInt32) (w : World) : Calls Tryz.prog 49 #[.int .u32 (I32 x), .int .i64 30] w fun e w' => e = .returned (.int .u32 (I32 (rot30 x))) ∧ ∃ m, w' = w.drewN m := by
  go_enter Tryz.func49, Tryz.ntmps49
  go_wp2
  go_quiet (fail)
  go_wp2
  go_ret
  exact ⟨rfl, nq, rfl⟩
theorem and31_1 : bits .and .u64 1 31 = 1 := by decide
theorem and31_5 : bits .and .u64 5 31 = 5 := by decide
theorem and31_30 : bits .and .u64 30 31 = 30 := by decide
attribute [local go_sem] and31_1 and31_5 and31_30
theorem rl1 (x : UInt32) (w : World) : Calls Tryz.prog 117 #[.int .u32 (I32 x), .int .i64 1] w fun e w' => e = .returned (.int .u32 (I32 (rot1 x))) ∧ w' = w := by
  go_enter Tryz.func117, Tryz.ntmps117
  go_wp2
  go_ret
  exact ⟨rfl, rfl⟩
theorem rl5 (x : UInt32) (w : World) : Calls Tryz.prog 117 #[.int .u32 (I32 x), .int .i64 5] w fun e w' => e = .returned (.int .u32 (I32 (rot5 x))) ∧ w' = w := by
  go_enter Tryz.func117, Tryz.ntmps117
  go_wp2
  go_ret
  exact ⟨rfl, rfl⟩
theorem rl30 (x : UInt32) (w : World) : Calls Tryz.prog 117 #[.int .u32 (I32 x), .int .i64 30] w fun e w' => e = .returned (.int .u32 (I32 (rot30 x))) ∧ w' = w := by
  go_enter Tryz.func117, Tryz.ntmps117
  go_wp2
  go_ret
  exact ⟨rfl, rfl⟩
end Go.Proofs.YtpkipinamlbdoaaGreatDoor

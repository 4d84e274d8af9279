/-
  What is signed and marked of the message of right: its bytes, and what they are taken with; all by the kernel. No condition.
-/
import Derived.Test.YtpkipinamlbdoaaGreatDoorOA
import Derived.KernelRfl
import Derived.Test.YtpkipinamlbdoaaGreatDoorNA
namespace Go.Proofs.YtpkipinamlbdoaaGreatDoor
open Go Go.RowKit
def macA : List UInt8 := [254, 193, 169, 153, 109, 215, 109, 213, 16, 94, 78, 232, 13, 182, 212, 159, 239, 111, 78, 210]
def rbL : List UInt8 := [0, 1, 0, 32, 33, 18, 164, 66, 0, 0, 0, 0, 0, 0, 0, 0, 0, 0, 0, 0, 0, 8, 0, 20, 254, 193, 169, 153, 109, 215, 109, 213,
  16, 94, 78, 232, 13, 182, 212, 159, 239, 111, 78, 210, 128, 40, 0, 4, 247, 34, 126, 99]
def uL : List UInt8 := [0, 1, 0, 24, 33, 18, 164, 66, 0, 0, 0, 0, 0, 0, 0, 0, 0, 0, 0, 0]
def rbA : List (Nat × List UInt8) := [(8, macA), (32808, [247, 34, 126, 99])]
set_option maxRecDepth 1000000
theorem macA_eq : macOf [97] uL = macA := by kernel_rfl
theorem macB_head : (macOf [98] uL).head? = some 21 := by kernel_rfl
theorem macB_ne : macA ≠ macOf [98] uL := by
  intro h
  have := congrArg List.head? h
  rw [macB_head] at this
  exact absurd this (by decide)
theorem rb_eq : markOf (signOf encL [97]) = rbL := by kernel_rfl
theorem rb_dec : decodeL rbL = some rbA := by kernel_rfl
theorem rb_u : (lenSet (reach (rbA.take 0) + 24) rbL).take (20 + reach (rbA.take 0)) = uL := by kernel_rfl
theorem rb_fp : be32 247 34 126 99 = fpOf (rbL.take (rbL.length - 8)) := by kernel_rfl
theorem rb_val0 : (rbL.drop (20 + reach (rbA.take 0) + 4)).take 20 = macA := by kernel_rfl
theorem rb_val1 : (rbL.drop (20 + reach (rbA.take 1) + 4)).take 4 = [247, 34, 126, 99] := by kernel_rfl
theorem rb_len : rbL.length = 52 := rfl
theorem rb_reach : 20 + reach rbA ≤ rbL.length := by decide
theorem rb_num : num rbL 2 2 = 32 := by kernel_rfl
theorem signed_rb_a (a0 a1 a2 : Addr) (A B : Option Addr) (n c nk ck : Nat) (w : World) (hE : Errs a0 a1 a2 w) (hd : Rd w (.slice A n c) rbL) (hk : Rd w (.slice B nk ck) [97]) :
    Calls Tryz.prog 6 #[.slice A n c, .slice B nk ck] w fun e w' => e = .returned (.int .i64 0) ∧ Fresh w w' := by
  refine (signed_any a0 a1 a2 A B n c nk ck 0 rbL [97] rbA w hE hd hk (by decide) (by rw [rb_len]; omega) rb_dec (by decide) (by decide) (by intro i _ h; omega) (by decide) (by decide) rb_val0 rb_reach (by rw [rb_num]; omega)).mono ?_
  rintro e w' ⟨rfl, hu⟩
  rw [rb_u, macA_eq]
  exact ⟨rfl, hu⟩
theorem signed_rb_b (a0 a1 a2 : Addr) (A B : Option Addr) (n c nk ck : Nat) (w : World) (hE : Errs a0 a1 a2 w) (hd : Rd w (.slice A n c) rbL) (hk : Rd w (.slice B nk ck) [98]) :
    Calls Tryz.prog 6 #[.slice A n c, .slice B nk ck] w fun e w' => e = .returned (.int .i64 8) ∧ Fresh w w' := by
  refine (signed_any a0 a1 a2 A B n c nk ck 0 rbL [98] rbA w hE hd hk (by decide) (by rw [rb_len]; omega) rb_dec (by decide) (by decide) (by intro i _ h; omega) (by decide) (by decide) rb_val0 rb_reach (by rw [rb_num]; omega)).mono ?_
  rintro e w' ⟨rfl, hu⟩
  rw [rb_u]
  exact ⟨by rw [if_neg (show ¬ (rbA[0]).2 = macOf [98] uL from macB_ne)], hu⟩
theorem rb_one : ∀ i (h : i < rbA.length), i < 1 → compat (rbA[i]).1 ≠ 32808 := by
  intro i h h1
  obtain rfl : i = 0 := by omega
  show compat 8 ≠ 32808
  decide
theorem marked_rb (a0 a1 a2 : Addr) (A : Option Addr) (n c : Nat) (w : World) (hE : Errs a0 a1 a2 w) (hd : Rd w (.slice A n c) rbL) :
    Calls Tryz.prog 7 #[.slice A n c] w fun e w' => e = .returned (.int .i64 0) ∧ Fresh w w' := by
  refine (marked_any a0 a1 a2 A n c 1 rbL rbA 247 34 126 99 w hE hd (by decide) (by rw [rb_len]; omega) rb_dec (by decide) (by decide) (rb_one) rfl rb_val1 rb_reach).mono ?_
  rintro e w' ⟨rfl, hu⟩
  exact ⟨by rw [if_pos rb_fp], hu⟩
end Go.Proofs.YtpkipinamlbdoaaGreatDoor

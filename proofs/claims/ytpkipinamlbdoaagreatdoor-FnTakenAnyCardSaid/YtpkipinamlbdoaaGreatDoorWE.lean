/-
  The walks of CRC-32's callers: both fingerprints are crcOf of the bytes, added to 5354554e. Condition: the bytes are there (the library's: at least sixteen).
-/
import Derived.Test.YtpkipinamlbdoaaGreatDoorWD
namespace Go.Proofs.YtpkipinamlbdoaaGreatDoor
open Go Go.RowKit

theorem I32_zero : I32 0 = 0 := by rw [I32_def]; rfl
theorem I32_xorf (x : UInt32) : bits .xor .u32 (I32 x) (1398035790 : Int) = I32 (x ^^^ 0x5354554e) := I32_xor x 0x5354554e ▸ (by rw [show I32 0x5354554e = 1398035790 from by rw [I32_def]; rfl])
attribute [local go_sem] I32_xorf
def fpOf (l : List UInt8) : UInt32 := crcOf l ^^^ 0x5354554e
set_option maxHeartbeats 400000 in
theorem upd_any (l : List UInt8) (b o n c : Nat) (w : World) (hn : n = l.length) (h16 : 16 ≤ n) (hc : n ≤ c) (hm : c ≤ maxLen) (hl : Bytes w b o l) :
    Calls Tryz.prog 62 #[.int .u32 0, .slice (some ⟨b, o, none⟩) n c] w fun e w' => e = .returned (.int .u32 (I32 (crcOf l))) ∧ Fresh w w' := by
  have HL : Hid (Bytes w b o l) := hl
  have HN : Hid (n = l.length) := hn
  clear hl hn
  go_enter Tryz.func62, Tryz.ntmps62
  go_wp2_with fail
  refine (mk_any _).mono ?_
  rintro e w1 ⟨g, rfl, hg, cur, hbl, hs, ht, hu⟩
  have HU : Hid (Fresh w w1) := hu
  have hC := slc_any 0 g l b o n c w1 HN.out h16 hc hm (HL.out.upd hu (fun f => f)) (fun j i hj hi => by rw [hbl.cell]; exact ht j i hj hi)
  simp only [I32_zero] at hC
  have HC : Hid _ := hC
  clear hC hs ht hbl hu
  go_wp2_with fail
  refine Calls.mono HC.out ?_
  rintro e w2 ⟨rfl, m, rfl⟩
  go_wp2
  go_ret
  exact ⟨rfl, HU.out.drewN m⟩
set_option maxHeartbeats 400000 in
theorem sum_any (l : List UInt8) (b o n c : Nat) (w : World) (hn : n = l.length) (h16 : 16 ≤ n) (hc : n ≤ c) (hm : c ≤ maxLen) (hl : Bytes w b o l) :
    Calls Tryz.prog 48 #[.slice (some ⟨b, o, none⟩) n c] w fun e w' => e = .returned (.int .u32 (I32 (crcOf l))) ∧ Fresh w w' := by
  have HC : Hid _ := upd_any l b o n c w hn h16 hc hm hl
  clear hn h16 hc hm hl
  go_enter Tryz.func48, Tryz.ntmps48
  go_wp2_with fail
  refine Calls.mono HC.out ?_
  rintro e w2 ⟨rfl, hu⟩
  go_wp2
  go_ret
  exact ⟨rfl, hu⟩
set_option maxHeartbeats 400000 in
theorem fpv_any (l : List UInt8) (b o n c : Nat) (w : World) (hn : n = l.length) (h16 : 16 ≤ n) (hc : n ≤ c) (hm : c ≤ maxLen) (hl : Bytes w b o l) :
    Calls Tryz.prog 32 #[.slice (some ⟨b, o, none⟩) n c] w fun e w' => e = .returned (.int .u32 (I32 (fpOf l))) ∧ Fresh w w' := by
  have HC : Hid _ := sum_any l b o n c w hn h16 hc hm hl
  clear hn h16 hc hm hl
  go_enter Tryz.func32, Tryz.ntmps32
  go_wp2_with fail
  refine Calls.mono HC.out ?_
  rintro e w2 ⟨rfl, hu⟩
  go_wp2
  go_ret
  exact ⟨rfl, hu⟩
set_option maxHeartbeats 400000 in
theorem fps_any (l : List UInt8) (b o n c : Nat) (w : World) (hn : n = l.length) (hc : n ≤ c) (hm : c ≤ maxLen) (hl : Bytes w b o l) :
    Calls Tryz.prog 20 #[.slice (some ⟨b, o, none⟩) n c] w fun e w' => e = .returned (.int .u32 (I32 (fpOf l))) ∧ w = w' := by
  have HC : Hid _ := crc_any l b o n c w hn hc hm hl
  clear hn hc hm hl
  go_enter Tryz.func20, Tryz.ntmps20
  go_wp2_with fail
  refine Calls.mono HC.out ?_
  rintro e w2 ⟨rfl, rfl⟩
  go_wp2
  go_ret
  exact ⟨rfl, rfl⟩
end Go.Proofs.YtpkipinamlbdoaaGreatDoor

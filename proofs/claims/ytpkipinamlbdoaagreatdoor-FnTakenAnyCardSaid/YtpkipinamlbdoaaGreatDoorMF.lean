/-
  The walk of the library's Message.WriteLength: the two bytes of the length are written. Conditions: at least four bytes; the length fits.
-/
import Derived.Test.YtpkipinamlbdoaaGreatDoorIA
import Derived.Test.YtpkipinamlbdoaaGreatDoorIC
import Derived.Deep.RegionHeld3
import Derived.Lib.Hide
namespace Go.Proofs.YtpkipinamlbdoaaGreatDoor
open Go Go.RowKit
theorem grow_any (gm gr n c : Nat) (w : World) (h16 : w.cell? ⟨gm, 16, none⟩ = some (.slice (some ⟨gr, 0, none⟩) n c)) (h4 : 4 ≤ n) :
    Calls Tryz.prog 41 #[.pointer (some ⟨gm, 0, none⟩), .int .i64 4] w fun e w' => e = .returned (.tuple #[]) ∧ w = w' := by
  have hi : (4 : Int) ≤ (n : Int) := by omega
  go_enter Tryz.func41, Tryz.ntmps41
  go_wp2_with fail
  refine bodyPost_ret (results_none rfl _ _ _) rfl ?_
  exact ⟨rfl, rfl⟩
set_option maxRecDepth 100000 in
set_option maxHeartbeats 2000000 in
theorem wlen_any (gm gr n c L : Nat) (cur : Array Value) (T : TypeId) (w : World) (h16 : w.cell? ⟨gm, 16, none⟩ = some (.slice (some ⟨gr, 0, none⟩) n c)) (h2 : w.cell? ⟨gm, 2, none⟩ = some (.int .u32 (L : Nat))) (hL : L < 65536)
    (hb : Blk w gr cur T) (h4 : 4 ≤ n) (hnc : n ≤ c) (hcm : c ≤ maxLen) (hs : 4 ≤ cur.size) (hne : gm ≠ gr) :
    Calls Tryz.prog 27 #[.pointer (some ⟨gm, 0, none⟩)] w fun e w' => e = .returned (.tuple #[]) ∧ Blk w' gr ((cur.setIfInBounds 2 (vb (UInt8.ofNat (L / 256)))).setIfInBounds 3 (vb (UInt8.ofNat L))) T ∧ Upd (fun k => k = gr) w w' := by
  have HB := Lib.hid hb
  have HS := Lib.hid hs
  have hw : IntKind.u16.wrap (L : Int) = (L : Int) := by rw [IntKind.wrap_u16]; omega
  have i2 : (2 : Int) ≤ (c : Int) := by omega
  have i4 : (4 : Int) ≤ (c : Int) := by omega
  have e2 : ¬ c = 2 := by omega
  have hcm2 : c ≤ 9223372036854775807 := by unfold maxLen at hcm; omega
  have hld := load77
  have d0 : Fresh w w.drew := (Upd.refl _ w).drew
  have HP := Lib.hid (put16_any L hL gr 2 2 (c - 2) cur T w.drew (Nat.le_refl _) (hb.upd d0 (fun f => f)) (by omega))
  clear hb hs d0
  go_enter Tryz.func27, Tryz.ntmps27
  go_wp2_with fail
  refine (grow_any gm gr n c w h16 h4).mono ?_
  rintro e w1 ⟨rfl, rfl⟩
  go_wp2_with fail
  go_region_held3 (fun w' => w'.cell? ⟨gm, 16, none⟩ = some (.slice (some ⟨gr, 0, none⟩) n c) ∧ w'.cell? ⟨gm, 2, none⟩ = some (.int .u32 (L : Nat))) (first | go_keep) (first | (go_at_call 42; refine Calls.mono HP.out ?_; rintro e w2 ⟨rfl, hb2, hu2⟩; have q1 : w2.cell? ⟨gm, 16, none⟩ = some (.slice (some ⟨gr, 0, none⟩) n c) := hu2.cell hne h16; have q2 : w2.cell? ⟨gm, 2, none⟩ = some (.int .u32 (L : Nat)) := hu2.cell hne h2))
  have HB2 := Lib.hid hb2
  have HU2 : Hid (Upd (fun k => k = gr) w w2) := ((Upd.refl _ w).drew).trans hu2
  clear hb2 hu2
  go_wp2_with fail
  go_end0
  exact ⟨rfl, HB2.out, HU2.out⟩
end Go.Proofs.YtpkipinamlbdoaaGreatDoor

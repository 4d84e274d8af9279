/-
  The walk of the library's HMAC: New. Conditions: a key of at most a hundred thousand bytes.
-/
import Derived.Test.YtpkipinamlbdoaaGreatDoorIY
import Derived.Test.YtpkipinamlbdoaaGreatDoorHC
import Derived.Handy
import Derived.Deep.RegionHeld3
import Derived.Deep.CutRange
import Derived.Deep.DeepCutAuto
import Derived.Lib.Hide
import Derived.Defers
namespace Go.Proofs.YtpkipinamlbdoaaGreatDoor
open Go Go.RowKit
abbrev dgI' (g : Nat) : Value := .iface 89 (.pointer (some ⟨g, 0, none⟩))
/-- What New gives. -/
def HNew (key : List UInt8) (w : World) (e : Ending) (w' : World) : Prop :=
  ∃ (gh go gi gop : Nat) (od : List UInt8), e = .returned (.pointer (some ⟨gh, 0, none⟩)) ∧ w'.cell? ⟨gh, 0, none⟩ = some (.slice (some ⟨gop, 0, none⟩) 64 64) ∧ w'.cell? ⟨gh, 2, none⟩ = some (dgI' go) ∧
    w'.cell? ⟨gh, 3, none⟩ = some (dgI' gi) ∧ w'.cell? ⟨gh, 4, none⟩ = some (.bool false) ∧ Dig w' gi ((padKey key).map (· ^^^ 0x36)) ∧ Dig w' go od ∧ Blk w' gop (bv ((padKey key).map (· ^^^ 0x5c))).toArray 5 ∧
    (w.heap.size ≤ gh ∧ w.heap.size ≤ go ∧ w.heap.size ≤ gi ∧ w.heap.size ≤ gop) ∧ (gi ≠ go ∧ gop ≠ go ∧ gh ≠ go ∧ gh ≠ gi ∧ gop ≠ gi ∧ gop ≠ gh) ∧ Fresh w w'
set_option maxRecDepth 100000 in
set_option maxHeartbeats 8000000 in
theorem hnew_any (A : Option Addr) (n c : Nat) (key : List UInt8) (w : World) (hk : Rd w (.slice A n c) key) (hkl : key.length ≤ 100000) :
    Calls Tryz.prog 43 #[.func (.func 44) #[] #[], .slice A n c] w (HNew key w) := by
  have HK := Lib.hid hk
  obtain rfl := hk.len
  clear hk
  go_enter Tryz.func43, Tryz.ntmps43
  go_wp2_with fail
  have HH1 : Hid (Blk ((w.alloc (.cells #[.slice none 0 0, .slice none 0 0, .nilIface, .nilIface, .bool false, .bool false, .int .i64 key.length] 110)).alloc (.cells #[.pointer (some ⟨w.heap.size, 0, none⟩)] 87)) w.heap.size #[.slice none 0 0, .slice none 0 0, .nilIface, .nilIface, .bool false, .bool false, .int .i64 key.length] 110) := (Blk.new _ _ _).alloc _
  have HV1 : Hid (Blk ((w.alloc (.cells #[.slice none 0 0, .slice none 0 0, .nilIface, .nilIface, .bool false, .bool false, .int .i64 key.length] 110)).alloc (.cells #[.pointer (some ⟨w.heap.size, 0, none⟩)] 87)) (w.heap.size + 1) #[.pointer (some ⟨w.heap.size, 0, none⟩)] 87) := by
    have := Blk.new (w.alloc (.cells #[.slice none 0 0, .slice none 0 0, .nilIface, .nilIface, .bool false, .bool false, .int .i64 key.length] 110)) #[.pointer (some ⟨w.heap.size, 0, none⟩)] 87
    show Blk _ _ _ _
    rwa [World.size_alloc] at this
  have HU1 : Hid (Fresh w ((w.alloc (.cells #[.slice none 0 0, .slice none 0 0, .nilIface, .nilIface, .bool false, .bool false, .int .i64 key.length] 110)).alloc (.cells #[.pointer (some ⟨w.heap.size, 0, none⟩)] 87))) := ((Upd.refl _ w).alloc _).alloc _
  generalize (w.alloc (.cells #[.slice none 0 0, .slice none 0 0, .nilIface, .nilIface, .bool false, .bool false, .int .i64 key.length] 110)).alloc (.cells #[.pointer (some ⟨w.heap.size, 0, none⟩)] 87) = w1 at *
  have cv : w1.cell? ⟨w.heap.size + 1, 0, none⟩ = some (.pointer (some ⟨w.heap.size, 0, none⟩)) := by rw [HV1.out.cell]; rfl
  have ch : w1.cell? ⟨w.heap.size, 2, none⟩ = some .nilIface := by rw [HH1.out.cell]; rfl
  have fh := HH1.out.free 2
  go_region_held3 (fun w' => w'.cell? ⟨w.heap.size + 1, 0, none⟩ = some (.pointer (some ⟨w.heap.size, 0, none⟩))) (first | go_keep) (first | (go_at_call 44; refine (new_any _).mono ?_; rintro e w2 ⟨go, rfl, hgo, hd2, hu2⟩; have cv2 : w2.cell? ⟨w.heap.size + 1, 0, none⟩ = some (.pointer (some ⟨w.heap.size, 0, none⟩)) := hu2.cell (fun f => f) cv; have ch2 : w2.cell? ⟨w.heap.size, 2, none⟩ = some .nilIface := hu2.cell (fun f => f) ch; have fh2 : w2.frozen? ⟨w.heap.size, 2, none⟩ = false := (hu2.frozen (fun f => f) (show w.heap.size < w1.drew.heap.size from HH1.out.lt)).trans fh))
  obtain ⟨kl, HKL⟩ : ∃ kl : Int, Hid (kl = (key.length : Int)) := ⟨_, rfl⟩
  have HH3 : Hid (Blk (w2.setCell ⟨w.heap.size, 2, none⟩ (dgI' go)) w.heap.size #[.slice none 0 0, .slice none 0 0, dgI' go, .nilIface, .bool false, .bool false, .int .i64 key.length] 110) :=
    (HH1.out.upd ((Upd.refl (fun _ => False) w1).drew.fresh hu2) (fun f => f)).set 2 (dgI' go)
  have hu3 : Upd (fun k => k = w.heap.size) w2 (w2.setCell ⟨w.heap.size, 2, none⟩ (dgI' go)) := Upd.setCell (S := fun k => k = w.heap.size) (Upd.refl _ w2) (p := ⟨w.heap.size, 2, none⟩) (fun _ => rfl) _
  have hge1 : w.heap.size + 2 ≤ w1.heap.size := HV1.out.lt
  have hgo1 : w.heap.size + 2 ≤ go := Nat.le_trans hge1 hgo
  have HV3 : Hid (Blk (w2.setCell ⟨w.heap.size, 2, none⟩ (dgI' go)) (w.heap.size + 1) #[.pointer (some ⟨w.heap.size, 0, none⟩)] 87) := (HV1.out.upd ((Upd.refl (fun _ => False) w1).drew.fresh hu2) (fun f => f)).upd hu3 (by omega)
  have HD3 : Hid (Dig (w2.setCell ⟨w.heap.size, 2, none⟩ (dgI' go)) go []) := hd2.upd hu3 (by omega)
  have HU3 : Hid (Fresh w (w2.setCell ⟨w.heap.size, 2, none⟩ (dgI' go))) := ((HU1.out.drew).fresh hu2).newer hu3 (fun k e => by omega)
  clear cv2 ch2 fh2 hd2 hu2 hu3 hgo hge1 HH1 HV1 HU1 cv ch fh
  go_wp2_with fail
  generalize w2.setCell ⟨w.heap.size, 2, none⟩ (dgI' go) = w3 at *
  have cv : w3.cell? ⟨w.heap.size + 1, 0, none⟩ = some (.pointer (some ⟨w.heap.size, 0, none⟩)) := by rw [HV3.out.cell]; rfl
  have ch : w3.cell? ⟨w.heap.size, 3, none⟩ = some .nilIface := by rw [HH3.out.cell]; rfl
  have fh := HH3.out.free 3
  go_region_held3 (fun w' => w'.cell? ⟨w.heap.size + 1, 0, none⟩ = some (.pointer (some ⟨w.heap.size, 0, none⟩))) (first | go_keep) (first | (go_at_call 44; refine (new_any _).mono ?_; rintro e w4 ⟨gi, rfl, hgi, hd4, hu4⟩; have cv4 : w4.cell? ⟨w.heap.size + 1, 0, none⟩ = some (.pointer (some ⟨w.heap.size, 0, none⟩)) := hu4.cell (fun f => f) cv; have ch4 : w4.cell? ⟨w.heap.size, 3, none⟩ = some .nilIface := hu4.cell (fun f => f) ch; have fh4 : w4.frozen? ⟨w.heap.size, 3, none⟩ = false := (hu4.frozen (fun f => f) (show w.heap.size < w3.drew.heap.size from HH3.out.lt)).trans fh))
  have hgi1 : go < gi := Nat.lt_of_lt_of_le HD3.out.lt hgi
  have HH5 : Hid (Blk (w4.setCell ⟨w.heap.size, 3, none⟩ (dgI' gi)) w.heap.size #[.slice none 0 0, .slice none 0 0, dgI' go, dgI' gi, .bool false, .bool false, .int .i64 key.length] 110) :=
    (HH3.out.upd ((Upd.refl (fun _ => False) w3).drew.fresh hu4) (fun f => f)).set 3 (dgI' gi)
  have hu5 : Upd (fun k => k = w.heap.size) w4 (w4.setCell ⟨w.heap.size, 3, none⟩ (dgI' gi)) := Upd.setCell (S := fun k => k = w.heap.size) (Upd.refl _ w4) (p := ⟨w.heap.size, 3, none⟩) (fun _ => rfl) _
  have HV5 : Hid (Blk (w4.setCell ⟨w.heap.size, 3, none⟩ (dgI' gi)) (w.heap.size + 1) #[.pointer (some ⟨w.heap.size, 0, none⟩)] 87) := (HV3.out.upd ((Upd.refl (fun _ => False) w3).drew.fresh hu4) (fun f => f)).upd hu5 (by omega)
  have HDO5 : Hid (Dig (w4.setCell ⟨w.heap.size, 3, none⟩ (dgI' gi)) go []) := (HD3.out.upd ((Upd.refl (fun _ => False) w3).drew.fresh hu4) (fun f => f)).upd hu5 (by omega)
  have HDI5 : Hid (Dig (w4.setCell ⟨w.heap.size, 3, none⟩ (dgI' gi)) gi []) := hd4.upd hu5 (by omega)
  have HU5 : Hid (Fresh w (w4.setCell ⟨w.heap.size, 3, none⟩ (dgI' gi))) := ((HU3.out.drew).fresh hu4).newer hu5 (fun k e => by omega)
  clear cv4 ch4 fh4 hd4 hu4 hu5 hgi HH3 HV3 HD3 HU3 cv ch fh
  go_wp2_with fail
  have hs45 : w4.heap.size = (w4.setCell ⟨w.heap.size, 3, none⟩ (dgI' gi)).heap.size := by simp [World.setCell]
  generalize w4.setCell ⟨w.heap.size, 3, none⟩ (dgI' gi) = w5 at *
  have hua : Fresh w5 (w5.alloc (.cells #[.bool true] 4)) := (Upd.refl _ w5).alloc _
  have HHa : Hid (Blk (w5.alloc (.cells #[.bool true] 4)) w.heap.size #[.slice none 0 0, .slice none 0 0, dgI' go, dgI' gi, .bool false, .bool false, .int .i64 key.length] 110) := HH5.out.upd hua (fun f => f)
  have HVa : Hid (Blk (w5.alloc (.cells #[.bool true] 4)) (w.heap.size + 1) #[.pointer (some ⟨w.heap.size, 0, none⟩)] 87) := HV5.out.upd hua (fun f => f)
  have HBa : Hid (Blk (w5.alloc (.cells #[.bool true] 4)) w5.heap.size #[.bool true] 4) := Blk.new _ _ _
  have HDOa : Hid (Dig (w5.alloc (.cells #[.bool true] 4)) go []) := HDO5.out.upd hua (fun f => f)
  have HDIa : Hid (Dig (w5.alloc (.cells #[.bool true] 4)) gi []) := HDI5.out.upd hua (fun f => f)
  have HUa : Hid (Fresh w (w5.alloc (.cells #[.bool true] 4))) := HU5.out.fresh hua
  have hgi5 : gi < w5.heap.size := HDI5.out.lt
  obtain ⟨xo, _, _, hbo⟩ := HDOa.out
  obtain ⟨xi, _, _, hbi⟩ := HDIa.out
  have HCL := Lib.hid (closure_any (w.heap.size + 1) w5.heap.size w.heap.size go gi _ _ _ (by rw [HVa.out.cell]; rfl) (by rw [HHa.out.cell]; rfl) (by rw [HHa.out.cell]; rfl) hbo hbi (by omega))
  clear hua HH5 HV5 HDO5 HDI5 HU5 hbo hbi
  generalize w5.alloc (.cells #[.bool true] 4) = wa at *
  rw [hs45]
  refine Calls.mono HCL.out ?_
  rintro e wb ⟨rfl, m, rfl⟩
  clear HCL
  have hub : Fresh wa (wa.drewN m) := (Upd.refl _ wa).drewN m
  have HH6 : Hid (Blk (wa.drewN m) w.heap.size #[.slice none 0 0, .slice none 0 0, dgI' go, dgI' gi, .bool false, .bool false, .int .i64 key.length] 110) := HHa.out.upd hub (fun f => f)
  have HV6 : Hid (Blk (wa.drewN m) (w.heap.size + 1) #[.pointer (some ⟨w.heap.size, 0, none⟩)] 87) := HVa.out.upd hub (fun f => f)
  have HDO6 : Hid (Dig (wa.drewN m) go []) := HDOa.out.upd hub (fun f => f)
  have HDI6 : Hid (Dig (wa.drewN m) gi []) := HDIa.out.upd hub (fun f => f)
  have HB6 : Hid (Blk (wa.drewN m) w5.heap.size #[.bool true] 4) := HBa.out.upd hub (fun f => f)
  have HU6 : Hid (Fresh w (wa.drewN m)) := HUa.out.fresh hub
  clear hub HHa HVa HDOa HDIa HUa HBa
  generalize wa.drewN m = w6 at *
  have cb : w6.cell? ⟨w5.heap.size, 0, none⟩ = some (.bool true) := by rw [HB6.out.cell]; rfl
  have cv : w6.cell? ⟨w.heap.size + 1, 0, none⟩ = some (.pointer (some ⟨w.heap.size, 0, none⟩)) := by rw [HV6.out.cell]; rfl
  have c3 : w6.cell? ⟨w.heap.size, 3, none⟩ = some (dgI' gi) := by rw [HH6.out.cell]; rfl
  go_wp2_with (first | (go_at_call 99; refine (blocksize_any _ _).mono ?_; rintro e w7 ⟨rfl, rfl⟩))
  have hmake := run_make64
  have f1 := HH6.out.free 1
  have c1 : w6.cell? ⟨w.heap.size, 1, none⟩ = some (.slice none 0 0) := by rw [HH6.out.cell]; rfl
  have hg6 : w.heap.size + 2 ≤ w6.heap.size := HV6.out.lt
  have hg6l : w.heap.size < w6.heap.size := by omega
  have c1a : ∀ ob, (w6.drew.alloc ob).cell? ⟨w.heap.size, 1, none⟩ = some (.slice none 0 0) := fun ob => ((Upd.refl (fun _ => False) w6).drew.alloc ob).cell (fun f => f) c1
  have f1a : ∀ ob, (w6.drew.alloc ob).frozen? ⟨w.heap.size, 1, none⟩ = false := fun ob => (((Upd.refl (fun _ => False) w6).drew.alloc ob).frozen (fun f => f) hg6l).trans f1
  have c1b : ∀ ob, (w6.alloc ob).cell? ⟨w.heap.size, 1, none⟩ = some (.slice none 0 0) := fun ob => ((Upd.refl (fun _ => False) w6).alloc ob).cell (fun f => f) c1
  have f1b : ∀ ob, (w6.alloc ob).frozen? ⟨w.heap.size, 1, none⟩ = false := fun ob => (((Upd.refl (fun _ => False) w6).alloc ob).frozen (fun f => f) hg6l).trans f1
  go_region_held3 (fun w' => w'.cell? ⟨w.heap.size + 1, 0, none⟩ = some (.pointer (some ⟨w.heap.size, 0, none⟩))) (first | go_keep) (fail)
  clear c1a f1a c1b f1b c1 f1 hg6l cb cv c3
  go_wp2_with fail
  have hsc : (w6.setCell ⟨w.heap.size, 1, none⟩ (.slice (some ⟨w6.heap.size, 0, none⟩) 64 64)).heap.size = w6.heap.size := by simp [World.setCell]
  have hus : Upd (fun k => k = w.heap.size) w6 ((w6.setCell ⟨w.heap.size, 1, none⟩ (.slice (some ⟨w6.heap.size, 0, none⟩) 64 64)).alloc (.cells (Zb 64) 5)).drew := ((Upd.setCell (S := fun k => k = w.heap.size) (Upd.refl _ w6) (p := ⟨w.heap.size, 1, none⟩) (fun _ => rfl) _).alloc _).drew
  have HH7 : Hid (Blk ((w6.setCell ⟨w.heap.size, 1, none⟩ (.slice (some ⟨w6.heap.size, 0, none⟩) 64 64)).alloc (.cells (Zb 64) 5)).drew w.heap.size #[.slice none 0 0, .slice (some ⟨w6.heap.size, 0, none⟩) 64 64, dgI' go, dgI' gi, .bool false, .bool false, .int .i64 key.length] 110) := (HH6.out.set 1 (.slice (some ⟨w6.heap.size, 0, none⟩) 64 64)).alloc _
  have HI7 : Hid (Blk ((w6.setCell ⟨w.heap.size, 1, none⟩ (.slice (some ⟨w6.heap.size, 0, none⟩) 64 64)).alloc (.cells (Zb 64) 5)).drew w6.heap.size (Zb 64) 5) := by
    have := Blk.new (w6.setCell ⟨w.heap.size, 1, none⟩ (.slice (some ⟨w6.heap.size, 0, none⟩) 64 64)) (Zb 64) 5
    rw [hsc] at this; exact this
  have HV7 : Hid (Blk ((w6.setCell ⟨w.heap.size, 1, none⟩ (.slice (some ⟨w6.heap.size, 0, none⟩) 64 64)).alloc (.cells (Zb 64) 5)).drew (w.heap.size + 1) #[.pointer (some ⟨w.heap.size, 0, none⟩)] 87) := HV6.out.upd hus (by omega)
  have HDO7 : Hid (Dig ((w6.setCell ⟨w.heap.size, 1, none⟩ (.slice (some ⟨w6.heap.size, 0, none⟩) 64 64)).alloc (.cells (Zb 64) 5)).drew go []) := HDO6.out.upd hus (by omega)
  have HDI7 : Hid (Dig ((w6.setCell ⟨w.heap.size, 1, none⟩ (.slice (some ⟨w6.heap.size, 0, none⟩) 64 64)).alloc (.cells (Zb 64) 5)).drew gi []) := HDI6.out.upd hus (by omega)
  have HU7 : Hid (Fresh w ((w6.setCell ⟨w.heap.size, 1, none⟩ (.slice (some ⟨w6.heap.size, 0, none⟩) 64 64)).alloc (.cells (Zb 64) 5)).drew) := HU6.out.newer hus (fun k e => by omega)
  have hgi6 : gi < w6.heap.size := HDI6.out.lt
  have hs7 : ((w6.setCell ⟨w.heap.size, 1, none⟩ (.slice (some ⟨w6.heap.size, 0, none⟩) 64 64)).alloc (.cells (Zb 64) 5)).drew.heap.size = w6.heap.size + 1 := by simp [World.setCell]
  clear hsc hus HH6 HV6 HDO6 HDI6 HU6 HB6
  generalize ((w6.setCell ⟨w.heap.size, 1, none⟩ (.slice (some ⟨w6.heap.size, 0, none⟩) 64 64)).alloc (.cells (Zb 64) 5)).drew = w7 at *
  have cv : w7.cell? ⟨w.heap.size + 1, 0, none⟩ = some (.pointer (some ⟨w.heap.size, 0, none⟩)) := by rw [HV7.out.cell]; rfl
  have hmake2 := run_make64
  have f1 := HH7.out.free 0
  have c1 : w7.cell? ⟨w.heap.size, 0, none⟩ = some (.slice none 0 0) := by rw [HH7.out.cell]; rfl
  have hg7l : w.heap.size < w7.heap.size := by omega
  have c1a : ∀ ob, (w7.drew.alloc ob).cell? ⟨w.heap.size, 0, none⟩ = some (.slice none 0 0) := fun ob => ((Upd.refl (fun _ => False) w7).drew.alloc ob).cell (fun f => f) c1
  have f1a : ∀ ob, (w7.drew.alloc ob).frozen? ⟨w.heap.size, 0, none⟩ = false := fun ob => (((Upd.refl (fun _ => False) w7).drew.alloc ob).frozen (fun f => f) hg7l).trans f1
  have c1b : ∀ ob, (w7.alloc ob).cell? ⟨w.heap.size, 0, none⟩ = some (.slice none 0 0) := fun ob => ((Upd.refl (fun _ => False) w7).alloc ob).cell (fun f => f) c1
  have f1b : ∀ ob, (w7.alloc ob).frozen? ⟨w.heap.size, 0, none⟩ = false := fun ob => (((Upd.refl (fun _ => False) w7).alloc ob).frozen (fun f => f) hg7l).trans f1
  have HS7 := Lib.hid hs7
  clear hs7
  go_region_held3 (fun w' => w'.cell? ⟨w.heap.size + 1, 0, none⟩ = some (.pointer (some ⟨w.heap.size, 0, none⟩))) (first | go_keep) (fail)
  clear c1a f1a c1b f1b c1 f1 hg7l cv hmake hmake2
  go_upto_if 49 with fail
  have hs7 := HS7.out
  have hsc : (w7.setCell ⟨w.heap.size, 0, none⟩ (.slice (some ⟨w7.heap.size, 0, none⟩) 64 64)).heap.size = w7.heap.size := by simp [World.setCell]
  have hus : Upd (fun k => k = w.heap.size) w7 ((w7.setCell ⟨w.heap.size, 0, none⟩ (.slice (some ⟨w7.heap.size, 0, none⟩) 64 64)).alloc (.cells (Zb 64) 5)).drew := ((Upd.setCell (S := fun k => k = w.heap.size) (Upd.refl _ w7) (p := ⟨w.heap.size, 0, none⟩) (fun _ => rfl) _).alloc _).drew
  have HH8 : Hid (Blk ((w7.setCell ⟨w.heap.size, 0, none⟩ (.slice (some ⟨w7.heap.size, 0, none⟩) 64 64)).alloc (.cells (Zb 64) 5)).drew w.heap.size #[.slice (some ⟨w7.heap.size, 0, none⟩) 64 64, .slice (some ⟨w6.heap.size, 0, none⟩) 64 64, dgI' go, dgI' gi, .bool false, .bool false, .int .i64 key.length] 110) := (HH7.out.set 0 (.slice (some ⟨w7.heap.size, 0, none⟩) 64 64)).alloc _
  have HO8 : Hid (Blk ((w7.setCell ⟨w.heap.size, 0, none⟩ (.slice (some ⟨w7.heap.size, 0, none⟩) 64 64)).alloc (.cells (Zb 64) 5)).drew w7.heap.size (Zb 64) 5) := by
    have := Blk.new (w7.setCell ⟨w.heap.size, 0, none⟩ (.slice (some ⟨w7.heap.size, 0, none⟩) 64 64)) (Zb 64) 5
    rw [hsc] at this; exact this
  have HI8 : Hid (Blk ((w7.setCell ⟨w.heap.size, 0, none⟩ (.slice (some ⟨w7.heap.size, 0, none⟩) 64 64)).alloc (.cells (Zb 64) 5)).drew w6.heap.size (Zb 64) 5) := HI7.out.upd hus (by omega)
  have HV8 : Hid (Blk ((w7.setCell ⟨w.heap.size, 0, none⟩ (.slice (some ⟨w7.heap.size, 0, none⟩) 64 64)).alloc (.cells (Zb 64) 5)).drew (w.heap.size + 1) #[.pointer (some ⟨w.heap.size, 0, none⟩)] 87) := HV7.out.upd hus (by omega)
  have HDO8 : Hid (Dig ((w7.setCell ⟨w.heap.size, 0, none⟩ (.slice (some ⟨w7.heap.size, 0, none⟩) 64 64)).alloc (.cells (Zb 64) 5)).drew go []) := HDO7.out.upd hus (by omega)
  have HDI8 : Hid (Dig ((w7.setCell ⟨w.heap.size, 0, none⟩ (.slice (some ⟨w7.heap.size, 0, none⟩) 64 64)).alloc (.cells (Zb 64) 5)).drew gi []) := HDI7.out.upd hus (by omega)
  have HU8 : Hid (Fresh w ((w7.setCell ⟨w.heap.size, 0, none⟩ (.slice (some ⟨w7.heap.size, 0, none⟩) 64 64)).alloc (.cells (Zb 64) 5)).drew) := HU7.out.newer hus (fun k e => by omega)
  clear hsc hus HH7 HV7 HDO7 HDI7 HU7 HI7
  generalize hw8 : ((w7.setCell ⟨w.heap.size, 0, none⟩ (.slice (some ⟨w7.heap.size, 0, none⟩) 64 64)).alloc (.cells (Zb 64) 5)).drew = w8 at *
  clear hw8
  have HK8 : Hid (Rd w8 (.slice A key.length c) key) := HK.out.upd HU8.out (fun _ _ f => f)
  have HGI := Lib.hid hgi6
  generalize hgip : w6.heap.size = gip at *
  have HGIP := Lib.hid hgip
  clear hgip
  rw [hs7] at HH8 HO8
  rw [hs7]
  have hgop : gip + 1 < w8.heap.size := HO8.out.lt
  clear hs7 HS7
  have cv : w8.cell? ⟨w.heap.size + 1, 0, none⟩ = some (.pointer (some ⟨w.heap.size, 0, none⟩)) := by rw [HV8.out.cell]; rfl
  have c2 : w8.cell? ⟨w.heap.size, 2, none⟩ = some (dgI' go) := by rw [HH8.out.cell]; rfl
  go_cut [1] (fun s1 wx => ∃ A c, s1 = .slice A (macKey key).length c ∧ Rd wx (.slice A (macKey key).length c) (macKey key) ∧ (∀ k, (Value.slice A (macKey key).length c).ownBlock = some k → k ≠ gip ∧ k ≠ gip + 1) ∧ (∃ od, Dig wx go od) ∧ Upd (fun k => k = go) w8 wx)
  case first =>
    have hold : ∀ k, (Value.slice A key.length c).ownBlock = some k → k < w.heap.size := HK.out.own_lt
    by_cases h64 : 64 < key.length
    · obtain ⟨kb, ko, rfl, _, hkc, hkm, hkby, hkb⟩ := HK8.out.addr (by omega)
      have hkb' : kb < w.heap.size := hold kb rfl
      have HWK := Lib.hid (write_any go kb ko key.length c [] key w8 HDO8.out hkby rfl hkc hkm (by omega) (by omega) (by simp; omega))
      have hmk : macKey key = sha1Of key := by unfold macKey; rw [if_pos (by omega)]
      have HMK := Lib.hid hmk
      clear hmk hkby hold
      go_wp2_with fail
      refine Calls.mono HWK.out ?_
      rintro e w9 ⟨rfl, hd9, hu9⟩
      have HD9 : Hid (Dig w9 go key) := by show Dig _ _ _; simpa using hd9
      have HU9 : Hid (Upd (fun k => k = go) w8 w9) := hu9
      have cv9 : w9.cell? ⟨w.heap.size + 1, 0, none⟩ = some (.pointer (some ⟨w.heap.size, 0, none⟩)) := hu9.cell (show ¬ (w.heap.size + 1 = go) by omega) cv
      have c29 : w9.cell? ⟨w.heap.size, 2, none⟩ = some (dgI' go) := hu9.cell (show ¬ (w.heap.size = go) by omega) c2
      clear hd9 hu9 HWK cv c2
      go_wp2_with fail
      refine (sumd_any go (.slice none 0 0) key w9 HD9.out (.inl rfl) (by omega)).mono ?_
      rintro e w10 ⟨r, rfl, hres, hsp⟩
      obtain ⟨g1, off1, cap1, cur1, T1, rfl, hb1, hfit1, hcap1, hcm1, hby1, hwh1⟩ := hres
      have hz9 := HU9.out.size
      have hg1 : w9.heap.size ≤ g1 := by
        rcases hwh1 with h | ⟨n, hv⟩
        · exact h
        · simp at hv
      have HR := Lib.hid (Rd.at_ (w := w10) g1 off1 (sha1Of key).length cap1 (sha1Of key) rfl hcap1 hcm1 hby1 hb1.lt)
      have HU10 : Hid (Fresh w9 w10) := hsp.1.mono (fun k _ h => by simp [Value.ownBlock] at h)
      clear hb1 hfit1 hby1 hwh1 hsp
      go_wp2_with fail
      go_meet
      rw [HMK.out]
      exact ⟨_, _, rfl, HR.out, fun k e => by have hk' : g1 = k := Option.some.inj e; omega, ⟨key, HD9.out.upd HU10.out (fun f => f)⟩, HU9.out.fresh HU10.out⟩
    · have hmk : macKey key = key := by unfold macKey; rw [if_neg (by omega)]
      have HMK := Lib.hid hmk
      clear hmk
      go_wp2_with fail
      go_meet
      rw [HMK.out]
      exact ⟨_, _, rfl, HK8.out, fun k e => by have := hold k e; have := HGIP.out; omega, ⟨[], HDO8.out⟩, Upd.refl _ _⟩
  case rest =>
  obtain ⟨A1, c1, rfl, hr1, hbk, ⟨od, hdo⟩, hu⟩ := hcut
  have HK9 := Lib.hid hr1
  have HBK := Lib.hid hbk
  have HDO9 := Lib.hid hdo
  have HU9 : Hid (Upd (fun k => k = go) w8 wc) := hu
  have hq : ∀ k, k = w.heap.size ∨ k = w.heap.size + 1 ∨ k = gi ∨ k = gip ∨ k = gip + 1 → ¬ k = go := fun k hk => by omega
  have HH9 := Lib.hid (HH8.out.upd hu (hq _ (by omega)))
  have HO9 := Lib.hid (HO8.out.upd hu (hq _ (by omega)))
  have HI9 := Lib.hid (HI8.out.upd hu (hq _ (by omega)))
  have HV9 := Lib.hid (HV8.out.upd hu (hq _ (by omega)))
  have HDI9 := Lib.hid (HDI8.out.upd hu (hq _ (by omega)))
  have hmkl := macKey_length key
  have HPK : Hid (padKey key = macKey key ++ List.replicate (64 - (macKey key).length) 0) := rfl
  have hpl := padKey_length key
  clear hr1 hbk hdo hu hq HK8 HDO8 HH8 HO8 HI8 HV8 HDI8 cv c2
  generalize macKey key = mk at *
  generalize hpke : padKey key = pk at *
  have HPKE := Lib.hid hpke
  clear hpke
  have HFU : Hid (Fresh w wc) := HU8.out.newer HU9.out (fun k e => by omega)
  clear HU8 HU9
  have cv : wc.cell? ⟨w.heap.size + 1, 0, none⟩ = some (.pointer (some ⟨w.heap.size, 0, none⟩)) := by rw [HV9.out.cell]; rfl
  have cI : wc.cell? ⟨w.heap.size, 1, none⟩ = some (.slice (some ⟨gip, 0, none⟩) 64 64) := by rw [HH9.out.cell]; rfl
  have cO : wc.cell? ⟨w.heap.size, 0, none⟩ = some (.slice (some ⟨gip + 1, 0, none⟩) 64 64) := by rw [HH9.out.cell]; rfl
  go_wp2_with (first | (refine wpList_copyB rfl (.tmp 64) (.tmp 65) rfl gip 0 64 64 _ (Zb 64) mk rfl rfl HK9.out HI9.out (by rw [Zb_size]; omega) hmkl ?_))
  intro wd hb1 hu1
  have HI10 : Hid (Blk wd gip (bv pk).toArray 5) := by show _ = _; rw [HPK.out, ← splice_pad mk hmkl]; exact hb1
  have HO10 : Hid (Blk wd (gip + 1) (Zb 64) 5) := HO9.out.upd hu1 (by omega)
  have HK10 := Lib.hid (HK9.out.upd hu1 (fun k e => (HBK.out k e).1))
  have HU10 : Hid (Upd (fun k => k = gip) wc wd) := hu1
  have cvd : wd.cell? ⟨w.heap.size + 1, 0, none⟩ = some (.pointer (some ⟨w.heap.size, 0, none⟩)) := hu1.cell (show ¬ (w.heap.size + 1 = gip) by omega) cv
  have cId : wd.cell? ⟨w.heap.size, 1, none⟩ = some (.slice (some ⟨gip, 0, none⟩) 64 64) := hu1.cell (show ¬ (w.heap.size = gip) by omega) cI
  have cOd : wd.cell? ⟨w.heap.size, 0, none⟩ = some (.slice (some ⟨gip + 1, 0, none⟩) 64 64) := hu1.cell (show ¬ (w.heap.size = gip) by omega) cO
  clear hb1 hu1 cv cI cO HI9 HO9 HK9
  go_wp2_with (first | (refine wpList_copyB rfl (.tmp 70) (.tmp 71) rfl (gip + 1) 0 64 64 _ (Zb 64) mk rfl rfl HK10.out HO10.out (by rw [Zb_size]; omega) hmkl ?_))
  intro we hb1 hu1
  have HO11 : Hid (Blk we (gip + 1) (bv pk).toArray 5) := by show _ = _; rw [HPK.out, ← splice_pad mk hmkl]; exact hb1
  have HI11 : Hid (Blk we gip (bv pk).toArray 5) := HI10.out.upd hu1 (by omega)
  have HU11 : Hid (Upd (fun k => k = gip ∨ k = gip + 1) wc we) := (HU10.out.mono (fun _ _ h => .inl h)).trans (hu1.mono (fun _ _ h => .inr h))
  have hbelow : ∀ k, ¬ (k = gip ∨ k = gip + 1) → True := fun _ _ => trivial
  clear hbelow hb1 HI10 HO10 HK10 HU10 HBK
  have HH11 := Lib.hid (HH9.out.upd HU11.out (by omega))
  have HV11 := Lib.hid (HV9.out.upd HU11.out (by omega))
  have HDI11 := Lib.hid (HDI9.out.upd HU11.out (by omega))
  have HDO11 := Lib.hid (HDO9.out.upd HU11.out (by omega))
  have HFU11 : Hid (Fresh w we) := HFU.out.newer HU11.out (fun k e => by omega)
  clear HH9 HV9 HDI9 HDO9 HU11 HFU hu1 cvd cId cOd
  have cv : we.cell? ⟨w.heap.size + 1, 0, none⟩ = some (.pointer (some ⟨w.heap.size, 0, none⟩)) := by rw [HV11.out.cell]; rfl
  have cI : we.cell? ⟨w.heap.size, 1, none⟩ = some (.slice (some ⟨gip, 0, none⟩) 64 64) := by rw [HH11.out.cell]; rfl
  go_wp2_with fail
  go_loopw [8, 78] (fun _ i wr => ∃ k : Nat, k ≤ 64 ∧ i = .int .i64 k ∧ Blk wr gip (bv (xorTo 0x36 k pk)).toArray 5 ∧ Upd (fun k => k = gip) we wr) (fun _ i _ => 64 - (intOf i).toNat)
  case atStart => exact ⟨0, by omega, rfl, by rw [xorTo_zero]; exact HI11.out, Upd.refl _ _⟩
  case round =>
    obtain ⟨k, hk, rfl, hbi, hu⟩ := hrel
    have HI := Lib.hid hbi
    have HU := Lib.hid hu
    have cvr : wr.cell? ⟨w.heap.size + 1, 0, none⟩ = some (.pointer (some ⟨w.heap.size, 0, none⟩)) := hu.cell (show ¬ (w.heap.size + 1 = gip) by omega) cv
    have cIr : wr.cell? ⟨w.heap.size, 1, none⟩ = some (.slice (some ⟨gip, 0, none⟩) 64 64) := hu.cell (show ¬ (w.heap.size = gip) by omega) cI
    clear hbi hu
    by_cases hlt : k < 64
    · have cg : wr.cell? ⟨gip, k, none⟩ = some (.int .u8 (I8 (pk[k]'(by omega)))) := by
        have := HI.out.bytes k (by rw [xorTo_length]; omega)
        rwa [Nat.zero_add, xorTo_get _ _ _ (by omega)] at this
      have fg := HI.out.free k
      have HX1 : Hid _ := xorTo_set 0x36 k pk (by omega)
      generalize pk[k]'(by omega) = x at *
      have hk64 : (k : Int) < 64 := by omega
      go_wp2
      go_roundw
      case rel =>
        rw [xor36]
        refine ⟨k + 1, by omega, by go_num, ?_, HU.out.setCell (fun _ => rfl) _⟩
        rw [← HX1.out, ← bv_set]; exact HI.out.set _ _
      case measure => simp [intOf]; omega
    · obtain rfl : k = 64 := by omega
      rw [xorTo_all _ _ _ (by omega)] at HI
      have HO12 : Hid (Blk wr (gip + 1) (bv pk).toArray 5) := HO11.out.upd HU.out (by omega)
      have HH12 := Lib.hid (HH11.out.upd HU.out (by omega))
      have HV12 := Lib.hid (HV11.out.upd HU.out (by omega))
      have HDI12 := Lib.hid (HDI11.out.upd HU.out (by omega))
      have HDO12 := Lib.hid (HDO11.out.upd HU.out (by omega))
      have HFU12 : Hid (Fresh w wr) := HFU11.out.newer HU.out (fun k e => by omega)
      have hik : (pk.map (· ^^^ 0x36)).length = 64 := by simp; omega
      generalize hike : pk.map (· ^^^ 0x36) = ik at *
      have HIKE := Lib.hid hike
      clear hike HH11 HV11 HDI11 HDO11 HFU11 HO11 HI11 HU cv cI
      have cOr : wr.cell? ⟨w.heap.size, 0, none⟩ = some (.slice (some ⟨gip + 1, 0, none⟩) 64 64) := by rw [HH12.out.cell]; rfl
      go_wp2_with fail
      obtain ⟨wo, rfl⟩ : ∃ wo : World, wo = wr := ⟨_, rfl⟩
      go_loopw [9, 96] (fun _ i wr => ∃ k : Nat, k ≤ 64 ∧ i = .int .i64 k ∧ Blk wr (gip + 1) (bv (xorTo 0x5c k pk)).toArray 5 ∧ Upd (fun k => k = gip + 1) wo wr) (fun _ i _ => 64 - (intOf i).toNat)
      case atStart => exact ⟨0, by omega, rfl, by rw [xorTo_zero]; exact HO12.out, Upd.refl _ _⟩
      case round =>
        obtain ⟨k, hk, rfl, hbi, hu⟩ := hrel
        have HO := Lib.hid hbi
        have HU := Lib.hid hu
        have cvr2 : wr.cell? ⟨w.heap.size + 1, 0, none⟩ = some (.pointer (some ⟨w.heap.size, 0, none⟩)) := hu.cell (show ¬ (w.heap.size + 1 = gip + 1) by omega) cvr
        have cOr2 : wr.cell? ⟨w.heap.size, 0, none⟩ = some (.slice (some ⟨gip + 1, 0, none⟩) 64 64) := hu.cell (show ¬ (w.heap.size = gip + 1) by omega) cOr
        have cIr2 : wr.cell? ⟨w.heap.size, 1, none⟩ = some (.slice (some ⟨gip, 0, none⟩) 64 64) := hu.cell (show ¬ (w.heap.size = gip + 1) by omega) cIr
        clear hbi hu
        by_cases hlt2 : k < 64
        · have cg : wr.cell? ⟨gip + 1, k, none⟩ = some (.int .u8 (I8 (pk[k]'(by omega)))) := by
            have := HO.out.bytes k (by rw [xorTo_length]; omega)
            rwa [Nat.zero_add, xorTo_get _ _ _ (by omega)] at this
          have fg := HO.out.free k
          have HX1 : Hid _ := xorTo_set 0x5c k pk (by omega)
          generalize pk[k]'(by omega) = x at *
          have hk64 : (k : Int) < 64 := by omega
          go_wp2
          go_roundw
          case rel =>
            rw [xor5c]
            refine ⟨k + 1, by omega, by go_num, ?_, HU.out.setCell (fun _ => rfl) _⟩
            rw [← HX1.out, ← bv_set]; exact HO.out.set _ _
          case measure => simp [intOf]; omega
        · obtain rfl : k = 64 := by omega
          rw [xorTo_all _ _ _ (by omega)] at HO
          have HI13 : Hid (Blk wr gip (bv ik).toArray 5) := HI.out.upd HU.out (by omega)
          have HH13 := Lib.hid (HH12.out.upd HU.out (by omega))
          have HV13 := Lib.hid (HV12.out.upd HU.out (by omega))
          have HDI13 := Lib.hid (HDI12.out.upd HU.out (by omega))
          have HDO13 := Lib.hid (HDO12.out.upd HU.out (by omega))
          have HFU13 : Hid (Fresh w wr) := HFU12.out.newer HU.out (fun k e => by omega)
          have c3r : wr.cell? ⟨w.heap.size, 3, none⟩ = some (dgI' gi) := by rw [HH13.out.cell]; rfl
          clear HH12 HV12 HDI12 HDO12 HFU12 HO12 HI HU cvr cIr cOr cOr2
          go_wp2_with fail
          have hdr : Fresh wr wr.drew := (Upd.refl _ wr).drew
          have HWI := Lib.hid (write_any gi gip 0 64 64 [] ik wr.drew (HDI13.out.upd hdr (fun f => f)) ((HI13.out.upd hdr (fun f => f)).bytes) hik.symm (Nat.le_refl _) (by unfold maxLen; omega) (by omega) (by omega) (by simp; omega))
          clear hdr
          go_region_held3 (fun w' => w'.cell? ⟨w.heap.size + 1, 0, none⟩ = some (.pointer (some ⟨w.heap.size, 0, none⟩)) ∧ w'.cell? ⟨w.heap.size, 3, none⟩ = some (dgI' gi) ∧ w'.cell? ⟨w.heap.size, 1, none⟩ = some (.slice (some ⟨gip, 0, none⟩) 64 64)) (first | go_keep)
            (first | (go_at_call 103; refine Calls.mono HWI.out ?_; rintro e wf ⟨rfl, hdf, huf⟩; have q1 : wf.cell? ⟨w.heap.size + 1, 0, none⟩ = some (.pointer (some ⟨w.heap.size, 0, none⟩)) := huf.cell (show ¬ (w.heap.size + 1 = gi) by omega) cvr2; have q2 : wf.cell? ⟨w.heap.size, 3, none⟩ = some (dgI' gi) := huf.cell (show ¬ (w.heap.size = gi) by omega) c3r; have q3 : wf.cell? ⟨w.heap.size, 1, none⟩ = some (.slice (some ⟨gip, 0, none⟩) 64 64) := huf.cell (show ¬ (w.heap.size = gi) by omega) cIr2))
          have HDF : Hid (Dig wf gi ik) := by show Dig _ _ _; simpa using hdf
          have HUF : Hid (Upd (fun k => k = gi) wr wf) := ((Upd.refl _ wr).drew).trans huf
          clear hdf huf q2 q3 HWI
          go_wp2_with fail
          go_ret
          have hb := HH13.out.upd HUF.out (show ¬ (w.heap.size = gi) by omega)
          refine ⟨w.heap.size, go, gi, gip + 1, od, rfl, by rw [hb.cell]; rfl, by rw [hb.cell]; rfl, by rw [hb.cell]; rfl, by rw [hb.cell]; rfl, ?_, HDO13.out.upd HUF.out (by omega), ?_, by omega, by omega, HFU13.out.newer HUF.out (fun k e => by omega)⟩
          · rw [HPKE.out, HIKE.out]; exact HDF.out
          · rw [HPKE.out]; exact HO.out.upd HUF.out (by omega)
end Go.Proofs.YtpkipinamlbdoaaGreatDoor

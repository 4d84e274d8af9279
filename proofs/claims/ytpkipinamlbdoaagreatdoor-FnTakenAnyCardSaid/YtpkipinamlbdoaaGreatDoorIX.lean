/-
  The walks of the library's digest: checkSum and Sum: SHA-1 of what was written. Conditions: at most nine hundred thousand bytes.
-/
import Derived.Test.YtpkipinamlbdoaaGreatDoorIS
import Derived.Deep.RegionHeld3
import Derived.Lib.Hide
namespace Go.Proofs.YtpkipinamlbdoaaGreatDoor
open Go Go.RowKit

theorem run_alloc166 (w : World) : (Instr.alloc 166 true (.tuple #[])).run Tryz.prog w = .ok (.pointer (some ⟨w.heap.size, 0, none⟩)) (w.alloc (.cells (Zb 20) 166)) := by kernel_rfl
theorem run_alloc176 (w : World) : (Instr.alloc 176 true (.tuple #[])).run Tryz.prog w = .ok (.pointer (some ⟨w.heap.size, 0, none⟩)) (w.alloc (.cells (Zb 72) 176)) := by kernel_rfl
theorem results_cell1 {fn : Func} {p : Tmp} {ty : TypeId} (h : fn.results = #[.cell p ty]) (tmps : Array Value) (P : Program) (w : World) :
    (results fn tmps).run P w = ((asAddr (tmps.getD p undef)).run P w).andThen fun a w₁ => (loadVar ty a).run P w₁ := by
  simp [results, h]
theorem Zb_bv (n : Nat) : Zb n = (bv (List.replicate n 0)).toArray := by
  have h8 : I8 0 = 0 := by rw [I8_def]; rfl
  simp [Zb, bv, h8]
theorem info166 : (Tryz.prog.info? 166).map (·.size) = some 20 := by kernel_rfl
theorem info115 : (Tryz.prog.info? 115).map (·.size) = some 71 := by kernel_rfl
theorem Blk.bytesT {w : World} {g : Nat} {l : List UInt8} {T : TypeId} (h : Blk w g (bv l).toArray T) : Bytes w g 0 l := by
  intro i hi
  rw [Nat.zero_add, h.cell]; simp [bv, hi]
theorem put_next (P B : List UInt8) (n k : Nat) (hk : P.length = k) : (P ++ List.replicate (n + 4) 0).take k ++ B ++ (P ++ List.replicate (n + 4) 0).drop (k + 4) = (P ++ B) ++ List.replicate n 0 := by
  subst hk
  rw [List.take_left, List.drop_length_add_append, List.drop_replicate, Nat.add_sub_cancel]
theorem digv_h (s : S5) (x : List UInt8) (nx len : Nat) : (digv s x nx len)[0]? = some (vw s.a) ∧ (digv s x nx len)[1]? = some (vw s.b) ∧ (digv s x nx len)[2]? = some (vw s.c) ∧ (digv s x nx len)[3]? = some (vw s.d) ∧ (digv s x nx len)[4]? = some (vw s.e) := by
  simp [digv, digL]
/-- What checkSum writes behind the bytes. -/
def tail (L : Nat) : List UInt8 := [0x80] ++ List.replicate (zeros L) 0 ++ beB (8 * L) 8
theorem tail_length (L : Nat) : (tail L).length = zeros L + 9 := by simp [tail, beB_length]
theorem tmp_tail (L : Nat) (hz : zeros L < 64) : (((List.replicate 72 (0 : UInt8)).set 0 0x80).take (zeros L + 1) ++ beB (8 * L) 8 ++ ((List.replicate 72 (0 : UInt8)).set 0 0x80).drop (zeros L + 1 + 8)).take (zeros L + 9) = tail L := by
  have e : (List.replicate 72 (0 : UInt8)).set 0 0x80 = 0x80 :: List.replicate 71 0 := rfl
  have e2 : (0x80 :: List.replicate 71 (0 : UInt8)).take (zeros L + 1) = [0x80] ++ List.replicate (zeros L) 0 := by
    rw [List.take_succ_cons, List.take_replicate, Nat.min_eq_left (by omega)]; rfl
  rw [e, e2]
  rw [List.take_append_of_le_length (by simp [beB_length])]
  rw [List.take_of_length_le (by simp [beB_length])]
  rfl
theorem run_sl176 (w : World) (b t : Nat) (h : t ≤ 64) :
    (Instr.sliceAt 176 (.pointer (some ⟨b, 0, none⟩)) none (some (.int .u64 ((t : Int) + 8))) none).run Tryz.prog w = .ok (.slice (some ⟨b, 0, none⟩) (t + 8) 72) w := by
  have h1 : (t : Int) + 8 ≤ 72 := by omega
  have h2 : ((t : Int) + 8).toNat = t + 8 := by omega
  have h3 : 0 ≤ (t : Int) + 8 := by omega
  simp [go_sem, h1, h2, h3]
theorem run_sl22u (w : World) (b t : Nat) (h : t ≤ 64) :
    (Instr.slice 22 (.slice (some ⟨b, 0, none⟩) (t + 8) 72) (some (.int .u64 (t : Int))) none none).run Tryz.prog w = .ok (.slice (some ⟨b, t, none⟩) 8 (72 - t)) w := by
  have h1 : (t : Int) ≤ (t : Int) + 8 := by omega
  have h2 : ¬ 72 = t := by omega
  simp [go_sem, h1, h2]
set_option maxRecDepth 100000 in
set_option maxHeartbeats 4000000 in
theorem checkSum_any (g : Nat) (data : List UInt8) (w : World) (hd : Dig w g data) (hlen : data.length ≤ 900000) :
    Calls Tryz.prog 105 #[.pointer (some ⟨g, 0, none⟩)] w fun e w' => e = .returned (.agg (bv (sha1Of data)).toArray) ∧ Upd (fun k => k = g) w w' := by
  have HD : Hid (Dig w g data) := hd
  obtain ⟨x, hx, hw, hb⟩ := hd
  have HB0 : Hid (Blk (w.alloc (.cells (Zb 20) 166)) g (digv (stOf data) x (data.length % 64) data.length) 115) := hb.alloc _
  have c70 : (w.alloc (.cells (Zb 20) 166)).cell? ⟨g, 70, none⟩ = some (.int .u64 (data.length : Nat)) := by rw [HB0.out.cell]; exact digv_len _ _ _ _ hx
  clear hx hw hb HB0
  have hgw : g < w.heap.size := HD.out.lt
  have hzz : zeros data.length < 64 := Nat.mod_lt _ (by decide)
  generalize hL : data.length = L at *
  have HL : Hid (data.length = L) := hL
  clear hL
  go_enter Tryz.func105, Tryz.ntmps105
  go_upto_region 3 with (first | (refine wpList_alloc_of run_alloc166 rfl rfl ?_) | (refine wpList_alloc_of run_alloc176 rfl rfl ?_))
  have HT : Hid (Blk ((w.alloc (.cells (Zb 20) 166)).alloc (.cells (Zb 72) 176)) (w.heap.size + 1) (bv (List.replicate 72 0)).toArray 176) := by
    show Blk _ _ _ _
    rw [← Zb_bv]
    have := Blk.new (w.alloc (.cells (Zb 20) 166)) (Zb 72) 176
    rwa [World.size_alloc] at this
  have HR : Hid (Blk ((w.alloc (.cells (Zb 20) 166)).alloc (.cells (Zb 72) 176)) w.heap.size (Zb 20) 166) := (Blk.new w (Zb 20) 166).alloc _
  have HU2 : Hid (Fresh w ((w.alloc (.cells (Zb 20) 166)).alloc (.cells (Zb 72) 176))) := ((Upd.refl _ w).alloc _).alloc _
  have HD2 : Hid (Dig ((w.alloc (.cells (Zb 20) 166)).alloc (.cells (Zb 72) 176)) g data) := HD.out.upd HU2.out (fun f => f)
  clear HD c70
  generalize (w.alloc (.cells (Zb 20) 166)).alloc (.cells (Zb 72) 176) = w2 at *
  obtain ⟨v0, c0⟩ := HT.out.some (j := 0) (by simp)
  have f0 := HT.out.free 0
  go_upto_if 15 with fail
  have HT3 : Hid (Blk (w2.setCell ⟨w.heap.size + 1, 0, none⟩ (.int .u8 128)) (w.heap.size + 1) (bv ((List.replicate 72 0).set 0 0x80)).toArray 176) := by
    show Blk _ _ _ _
    rw [← bv_set]
    have := HT.out.set 0 (vb 0x80)
    have e8 : (Value.int .u8 (I8 0x80)) = .int .u8 128 := by rw [I8_def]; rfl
    rw [show vb 0x80 = .int .u8 128 from e8] at this
    rw [e8]
    exact this
  have hu3 : Upd (fun k => k = w.heap.size + 1) w2 (w2.setCell ⟨w.heap.size + 1, 0, none⟩ (.int .u8 128)) := Upd.setCell (S := fun k => k = w.heap.size + 1) (Upd.refl _ w2) (p := ⟨w.heap.size + 1, 0, none⟩) (fun _ => rfl) _
  have HR3 : Hid (Blk (w2.setCell ⟨w.heap.size + 1, 0, none⟩ (.int .u8 128)) w.heap.size (Zb 20) 166) := HR.out.upd hu3 (by omega)
  have HD3 : Hid (Dig (w2.setCell ⟨w.heap.size + 1, 0, none⟩ (.int .u8 128)) g data) := HD2.out.upd hu3 (by omega)
  have HU3 : Hid (Fresh w (w2.setCell ⟨w.heap.size + 1, 0, none⟩ (.int .u8 128))) := HU2.out.newer hu3 (fun k e => by omega)
  clear hu3 HT HR HD2 HU2 c0 f0
  generalize w2.setCell ⟨w.heap.size + 1, 0, none⟩ (.int .u8 128) = w3 at *
  go_cut [5] (fun s5 wx => s5 = .int .u64 ((zeros L + 1 : Nat) : Int) ∧ w3 = wx)
  case first =>
    by_cases h56 : L % 64 < 56
    · go_wp2_with fail
      go_meet
      exact ⟨congrArg (Value.int .u64) (by unfold zeros; omega), rfl⟩
    · go_wp2_with fail
      go_meet
      exact ⟨congrArg (Value.int .u64) (by unfold zeros; omega), rfl⟩
  case rest =>
  obtain ⟨rfl, rfl⟩ := hcut
  have HTL := Lib.hid (tmp_tail L hzz)
  have HTLL := Lib.hid (tail_length L)
  generalize hz : zeros L + 1 = t at *
  have HZ : Hid (zeros L + 1 = t) := hz
  have ht : 1 ≤ t ∧ t ≤ 64 := by omega
  clear hz hzz
  have hs1 := fun wx => run_sl176 wx (w.heap.size + 1) t ht.2
  have hs2 := fun wx => run_sl22u wx (w.heap.size + 1) t ht.2
  generalize hl72 : (List.replicate 72 (0 : UInt8)).set 0 0x80 = l72 at *
  have HL72 : Hid (l72.length = 72) := by show _ = _; rw [← hl72]; simp
  clear hl72
  go_wp2_with fail
  rw [show (L : Int) * 8 = ((8 * L : Nat) : Int) by omega]
  refine (put64_any (8 * L) (w.heap.size + 1) t 8 (72 - t) l72 176 _ HT3.out (by omega) (by rw [HL72.out]; omega) (by omega)).mono ?_
  rintro e w4 ⟨rfl, hb4, hu4⟩
  have HT4 : Hid (Blk w4 (w.heap.size + 1) (bv (l72.take t ++ beB (8 * L) 8 ++ l72.drop (t + 8))).toArray 176) := hb4
  have HR4 : Hid (Blk w4 w.heap.size (Zb 20) 166) := HR3.out.upd hu4 (by omega)
  have HD4 : Hid (Dig w4 g data) := HD3.out.upd hu4 (by omega)
  have HU4 : Hid (Fresh w w4) := HU3.out.newer hu4 (fun k e => by omega)
  clear hb4 hu4 HT3 HR3 HD3 HU3
  have hby : Bytes w4 (w.heap.size + 1) 0 (tail L) := by
    have := (HT4.out.bytesT).take (t + 8)
    have e := HTL.out
    rw [show zeros L + 9 = t + 8 by have := HZ.out; omega] at e
    rw [e] at this; exact this
  have hnl : t + 8 = (tail L).length := by rw [HTLL.out]; have := HZ.out; omega
  have HWC := Lib.hid (write_any g (w.heap.size + 1) 0 (t + 8) 72 data (tail L) w4 HD4.out hby hnl (by omega) (by unfold maxLen; omega) (by omega) (by omega) (by rw [← hnl, HL.out]; omega))
  clear hby hnl
  go_wp2_with fail
  refine Calls.mono HWC.out ?_
  rintro e w5 ⟨rfl, hd5, hu5⟩
  have hpad : data ++ tail L = pad data := by rw [pad_eq, HL.out]; rfl
  have HD5 : Hid (Dig w5 g (pad data)) := by show Dig _ _ _; rw [← hpad]; exact hd5
  have HU5 : Hid (Upd (fun k => k = g) w w5) := (HU4.out.mono (fun _ _ f => f.elim)).trans hu5
  have HR5 : Hid (Blk w5 w.heap.size (Zb 20) 166) := HR4.out.upd hu5 (by omega)
  clear hd5 hu5 hpad HD4 HR4 HU4 HT4 HWC HTL HTLL HL72 hs1 hs2 HZ ht
  obtain ⟨x5, hx5, hw5, hb5⟩ := HD5.out
  have hpw : (pad data).length % 64 = 0 := pad_whole data
  rw [hpw] at hb5
  have HX5 : Hid (x5.length = 64) := hx5
  have HB5 : Hid (Blk w5 g (digv (stOf (pad data)) x5 0 (pad data).length) 115) := hb5
  have HS5 : Hid (sha1Of data = (stOf (pad data)).out) := rfl
  clear hx5 hw5 hb5 hpw HD5
  generalize stOf (pad data) = s at *
  generalize (pad data).length = pl at *
  have c69 : w5.cell? ⟨g, 69, none⟩ = some (.int .i64 ((0 : Nat) : Int)) := by rw [HB5.out.cell]; exact digv_nx _ _ _ _ HX5.out
  go_upto_region 15 with (first | (refine wpList_alloc_of run_alloc166 rfl rfl ?_))
  have HB6 : Hid (Blk (w5.alloc (.cells (Zb 20) 166)) g (digv s x5 0 pl) 115) := HB5.out.alloc _
  have HR6 : Hid (Blk (w5.alloc (.cells (Zb 20) 166)) w.heap.size (Zb 20) 166) := HR5.out.alloc _
  have HQ6 : Hid (Blk (w5.alloc (.cells (Zb 20) 166)) w5.heap.size (bv ([] ++ List.replicate 20 0)).toArray 166) := by
    show Blk _ _ _ _
    rw [List.nil_append, ← Zb_bv]; exact Blk.new _ _ _
  have HU6 : Hid (Upd (fun k => k = g) w (w5.alloc (.cells (Zb 20) 166))) := HU5.out.alloc _
  have hgq1 : g < w5.heap.size := HB5.out.lt
  have hgq2 : w.heap.size < w5.heap.size := HR5.out.lt
  obtain ⟨ha, hb, hc, hdd, he⟩ := digv_h s x5 0 pl
  have HA := Lib.hid ha
  have HBB := Lib.hid hb
  have HC := Lib.hid hc
  have HDD := Lib.hid hdd
  have HE := Lib.hid he
  clear ha hb hc hdd he HB5 HR5 HU5 c69
  generalize w5.alloc (.cells (Zb 20) 166) = w6 at *
  have ch0 : w6.cell? ⟨g, 0, none⟩ = some (vw s.a) := by rw [HB6.out.cell]; exact HA.out
  have hk0 : ([] : List UInt8).length = 0 := by simp
  have hcall0 : ∀ wx, Blk wx w5.heap.size (bv ([] ++ List.replicate (16 + 4) 0)).toArray 166 → Calls Tryz.prog 113 #[.slice (some ⟨w5.heap.size, 0, none⟩) 20 20, vw s.a] wx fun e w' => e = .returned (.tuple #[]) ∧ Blk w' w5.heap.size (bv (([] ++ beB s.a.toNat 4) ++ List.replicate 16 0)).toArray 166 ∧ Upd (fun k => k = w5.heap.size) wx w' := fun wx hb => by
    have := put32_any s.a w5.heap.size 0 20 20 _ 166 wx hb (by omega) (by simp)
    rw [put_next _ _ 16 0 hk0] at this; exact this
  have HCALL0 := Lib.hid hcall0
  clear hcall0 hk0
  go_region_with ((go_at_call 113; refine (HCALL0.out w6.drew (HQ6.out.upd ((Upd.refl (fun _ => False) w6).drew) (fun f => f))).mono ?_; rintro e w7 ⟨rfl, hbq, huq⟩))
  have hdr0 : Upd (fun k => k = w5.heap.size) w6 w7 := ((Upd.refl (fun k => k = w5.heap.size) w6).drew).trans huq
  have HQ7 : Hid (Blk w7 w5.heap.size (bv (([] ++ beB s.a.toNat 4) ++ List.replicate 16 0)).toArray 166) := hbq
  have HB7 : Hid (Blk w7 g (digv s x5 0 pl) 115) := HB6.out.upd hdr0 (by omega)
  have HR7 : Hid (Blk w7 w.heap.size (Zb 20) 166) := HR6.out.upd hdr0 (by omega)
  have HU7 : Hid (Upd (fun k => k = g) w w7) := HU6.out.newer hdr0 (fun k e => by omega)
  clear hbq huq hdr0 HQ6 HB6 HR6 HU6 ch0 HCALL0
  go_wp2_with fail
  have ch1 : w7.cell? ⟨g, 1, none⟩ = some (vw s.b) := by rw [HB7.out.cell]; exact HBB.out
  have hk1 : (([] ++ beB s.a.toNat 4) : List UInt8).length = 4 := by simp [beB_length]
  have hcall1 : ∀ wx, Blk wx w5.heap.size (bv (([] ++ beB s.a.toNat 4) ++ List.replicate (12 + 4) 0)).toArray 166 → Calls Tryz.prog 113 #[.slice (some ⟨w5.heap.size, 4, none⟩) 16 16, vw s.b] wx fun e w' => e = .returned (.tuple #[]) ∧ Blk w' w5.heap.size (bv ((([] ++ beB s.a.toNat 4) ++ beB s.b.toNat 4) ++ List.replicate 12 0)).toArray 166 ∧ Upd (fun k => k = w5.heap.size) wx w' := fun wx hb => by
    have := put32_any s.b w5.heap.size 4 16 16 _ 166 wx hb (by omega) (by simp [beB_length])
    rw [put_next _ _ 12 4 hk1] at this; exact this
  have HCALL1 := Lib.hid hcall1
  clear hcall1 hk1
  go_region_with ((go_at_call 113; refine (HCALL1.out w7.drew (HQ7.out.upd ((Upd.refl (fun _ => False) w7).drew) (fun f => f))).mono ?_; rintro e w8 ⟨rfl, hbq, huq⟩))
  have hdr1 : Upd (fun k => k = w5.heap.size) w7 w8 := ((Upd.refl (fun k => k = w5.heap.size) w7).drew).trans huq
  have HQ8 : Hid (Blk w8 w5.heap.size (bv ((([] ++ beB s.a.toNat 4) ++ beB s.b.toNat 4) ++ List.replicate 12 0)).toArray 166) := hbq
  have HB8 : Hid (Blk w8 g (digv s x5 0 pl) 115) := HB7.out.upd hdr1 (by omega)
  have HR8 : Hid (Blk w8 w.heap.size (Zb 20) 166) := HR7.out.upd hdr1 (by omega)
  have HU8 : Hid (Upd (fun k => k = g) w w8) := HU7.out.newer hdr1 (fun k e => by omega)
  clear hbq huq hdr1 HQ7 HB7 HR7 HU7 ch1 HCALL1
  go_wp2_with fail
  have ch2 : w8.cell? ⟨g, 2, none⟩ = some (vw s.c) := by rw [HB8.out.cell]; exact HC.out
  have hk2 : ((([] ++ beB s.a.toNat 4) ++ beB s.b.toNat 4) : List UInt8).length = 8 := by simp [beB_length]
  have hcall2 : ∀ wx, Blk wx w5.heap.size (bv ((([] ++ beB s.a.toNat 4) ++ beB s.b.toNat 4) ++ List.replicate (8 + 4) 0)).toArray 166 → Calls Tryz.prog 113 #[.slice (some ⟨w5.heap.size, 8, none⟩) 12 12, vw s.c] wx fun e w' => e = .returned (.tuple #[]) ∧ Blk w' w5.heap.size (bv (((([] ++ beB s.a.toNat 4) ++ beB s.b.toNat 4) ++ beB s.c.toNat 4) ++ List.replicate 8 0)).toArray 166 ∧ Upd (fun k => k = w5.heap.size) wx w' := fun wx hb => by
    have := put32_any s.c w5.heap.size 8 12 12 _ 166 wx hb (by omega) (by simp [beB_length])
    rw [put_next _ _ 8 8 hk2] at this; exact this
  have HCALL2 := Lib.hid hcall2
  clear hcall2 hk2
  go_region_with ((go_at_call 113; refine (HCALL2.out w8.drew (HQ8.out.upd ((Upd.refl (fun _ => False) w8).drew) (fun f => f))).mono ?_; rintro e w9 ⟨rfl, hbq, huq⟩))
  have hdr2 : Upd (fun k => k = w5.heap.size) w8 w9 := ((Upd.refl (fun k => k = w5.heap.size) w8).drew).trans huq
  have HQ9 : Hid (Blk w9 w5.heap.size (bv (((([] ++ beB s.a.toNat 4) ++ beB s.b.toNat 4) ++ beB s.c.toNat 4) ++ List.replicate 8 0)).toArray 166) := hbq
  have HB9 : Hid (Blk w9 g (digv s x5 0 pl) 115) := HB8.out.upd hdr2 (by omega)
  have HR9 : Hid (Blk w9 w.heap.size (Zb 20) 166) := HR8.out.upd hdr2 (by omega)
  have HU9 : Hid (Upd (fun k => k = g) w w9) := HU8.out.newer hdr2 (fun k e => by omega)
  clear hbq huq hdr2 HQ8 HB8 HR8 HU8 ch2 HCALL2
  go_wp2_with fail
  have ch3 : w9.cell? ⟨g, 3, none⟩ = some (vw s.d) := by rw [HB9.out.cell]; exact HDD.out
  have hk3 : (((([] ++ beB s.a.toNat 4) ++ beB s.b.toNat 4) ++ beB s.c.toNat 4) : List UInt8).length = 12 := by simp [beB_length]
  have hcall3 : ∀ wx, Blk wx w5.heap.size (bv (((([] ++ beB s.a.toNat 4) ++ beB s.b.toNat 4) ++ beB s.c.toNat 4) ++ List.replicate (4 + 4) 0)).toArray 166 → Calls Tryz.prog 113 #[.slice (some ⟨w5.heap.size, 12, none⟩) 8 8, vw s.d] wx fun e w' => e = .returned (.tuple #[]) ∧ Blk w' w5.heap.size (bv ((((([] ++ beB s.a.toNat 4) ++ beB s.b.toNat 4) ++ beB s.c.toNat 4) ++ beB s.d.toNat 4) ++ List.replicate 4 0)).toArray 166 ∧ Upd (fun k => k = w5.heap.size) wx w' := fun wx hb => by
    have := put32_any s.d w5.heap.size 12 8 8 _ 166 wx hb (by omega) (by simp [beB_length])
    rw [put_next _ _ 4 12 hk3] at this; exact this
  have HCALL3 := Lib.hid hcall3
  clear hcall3 hk3
  go_region_with ((go_at_call 113; refine (HCALL3.out w9.drew (HQ9.out.upd ((Upd.refl (fun _ => False) w9).drew) (fun f => f))).mono ?_; rintro e w10 ⟨rfl, hbq, huq⟩))
  have hdr3 : Upd (fun k => k = w5.heap.size) w9 w10 := ((Upd.refl (fun k => k = w5.heap.size) w9).drew).trans huq
  have HQ10 : Hid (Blk w10 w5.heap.size (bv ((((([] ++ beB s.a.toNat 4) ++ beB s.b.toNat 4) ++ beB s.c.toNat 4) ++ beB s.d.toNat 4) ++ List.replicate 4 0)).toArray 166) := hbq
  have HB10 : Hid (Blk w10 g (digv s x5 0 pl) 115) := HB9.out.upd hdr3 (by omega)
  have HR10 : Hid (Blk w10 w.heap.size (Zb 20) 166) := HR9.out.upd hdr3 (by omega)
  have HU10 : Hid (Upd (fun k => k = g) w w10) := HU9.out.newer hdr3 (fun k e => by omega)
  clear hbq huq hdr3 HQ9 HB9 HR9 HU9 ch3 HCALL3
  go_wp2_with fail
  have ch4 : w10.cell? ⟨g, 4, none⟩ = some (vw s.e) := by rw [HB10.out.cell]; exact HE.out
  have hk4 : ((((([] ++ beB s.a.toNat 4) ++ beB s.b.toNat 4) ++ beB s.c.toNat 4) ++ beB s.d.toNat 4) : List UInt8).length = 16 := by simp [beB_length]
  have hcall4 : ∀ wx, Blk wx w5.heap.size (bv ((((([] ++ beB s.a.toNat 4) ++ beB s.b.toNat 4) ++ beB s.c.toNat 4) ++ beB s.d.toNat 4) ++ List.replicate (0 + 4) 0)).toArray 166 → Calls Tryz.prog 113 #[.slice (some ⟨w5.heap.size, 16, none⟩) 4 4, vw s.e] wx fun e w' => e = .returned (.tuple #[]) ∧ Blk w' w5.heap.size (bv (((((([] ++ beB s.a.toNat 4) ++ beB s.b.toNat 4) ++ beB s.c.toNat 4) ++ beB s.d.toNat 4) ++ beB s.e.toNat 4) ++ List.replicate 0 0)).toArray 166 ∧ Upd (fun k => k = w5.heap.size) wx w' := fun wx hb => by
    have := put32_any s.e w5.heap.size 16 4 4 _ 166 wx hb (by omega) (by simp [beB_length])
    rw [put_next _ _ 0 16 hk4] at this; exact this
  have HCALL4 := Lib.hid hcall4
  clear hcall4 hk4
  go_region_with ((go_at_call 113; refine (HCALL4.out w10.drew (HQ10.out.upd ((Upd.refl (fun _ => False) w10).drew) (fun f => f))).mono ?_; rintro e w11 ⟨rfl, hbq, huq⟩))
  have hdr4 : Upd (fun k => k = w5.heap.size) w10 w11 := ((Upd.refl (fun k => k = w5.heap.size) w10).drew).trans huq
  have HQ11 : Hid (Blk w11 w5.heap.size (bv (((((([] ++ beB s.a.toNat 4) ++ beB s.b.toNat 4) ++ beB s.c.toNat 4) ++ beB s.d.toNat 4) ++ beB s.e.toNat 4) ++ List.replicate 0 0)).toArray 166) := hbq
  have HB11 : Hid (Blk w11 g (digv s x5 0 pl) 115) := HB10.out.upd hdr4 (by omega)
  have HR11 : Hid (Blk w11 w.heap.size (Zb 20) 166) := HR10.out.upd hdr4 (by omega)
  have HU11 : Hid (Upd (fun k => k = g) w w11) := HU10.out.newer hdr4 (fun k e => by omega)
  clear hbq huq hdr4 HQ10 HB10 HR10 HU10 ch4 HCALL4
  have hout : (((((([] ++ beB s.a.toNat 4) ++ beB s.b.toNat 4) ++ beB s.c.toNat 4) ++ beB s.d.toNat 4) ++ beB s.e.toNat 4) ++ List.replicate 0 0 : List UInt8) = sha1Of data := by rw [HS5.out]; simp [S5.out]
  have HQ12 : Hid (Blk w11 w5.heap.size (bv (sha1Of data)).toArray 166) := by show Blk _ _ _ _; rw [← hout]; exact HQ11.out
  clear HQ11 hout
  have hsz : (bv (sha1Of data)).toArray.size = 20 := by simp [sha1Of_length]
  have HSZ := Lib.hid hsz
  have hone : (bv (sha1Of data)).toArray.all (·.oneCell') = true := Array.all_eq_true_iff_forall_mem.2 fun v hv => bv_one (sha1Of data) v (by simpa using hv)
  have HONE := Lib.hid hone
  clear hsz hone HS5
  generalize hout : (bv (sha1Of data)).toArray = out at *
  have HOUT := Lib.hid hout
  clear hout
  go_wp2_with (first
    | (refine wpList_load_row rfl 166 (.tmp 7) rfl w5.heap.size rfl 166 out (0, 0) _ HQ12.out Tryz.underlying166 rfl (by rw [HSZ.out]; exact info166) ?_)
    | (refine wpList_store_row rfl 166 (.tmp 2) (.tmp 76) rfl w.heap.size out rfl rfl 166 (Zb 20) HR11.out (by rw [HSZ.out]; exact info166) (by rw [HSZ.out, Zb_size]) HONE.out ?_))
  have hld : (loadVar 166 ⟨w.heap.size, 0, none⟩).run Tryz.prog (w11.setRow w.heap.size out) = .ok (.agg out) (w11.setRow w.heap.size out) :=
    run_loadVar_row _ _ 166 166 out (0, 0) _ (HR11.out.row out) Tryz.underlying166 rfl (by rw [HSZ.out]; exact info166)
  refine bodyPost_ret (v := .agg out) (by
    rw [results_cell1 rfl]
    show ((asAddr (.pointer (some ⟨w.heap.size, 0, none⟩))).run Tryz.prog (w11.setRow w.heap.size out)).andThen (fun a w₁ => (loadVar 166 a).run Tryz.prog w₁) = _
    have ha : ∀ w', (asAddr (.pointer (some ⟨w.heap.size, 0, none⟩))).run Tryz.prog w' = .ok ⟨w.heap.size, 0, none⟩ w' := fun _ => rfl
    rw [ha]; exact hld) rfl ?_
  refine ⟨by rw [HOUT.out], HU11.out.newer (T := fun k => k = w.heap.size) ⟨rfl, rfl, rfl, by simp [World.setRow], fun k _ hk => setRow_other _ _ _ _ hk⟩ (fun k hk => by omega)⟩
end Go.Proofs.YtpkipinamlbdoaaGreatDoor

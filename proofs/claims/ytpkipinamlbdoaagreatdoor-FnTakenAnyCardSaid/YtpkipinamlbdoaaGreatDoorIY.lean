/-
  The walk of the library's digest: Sum: SHA-1 of what was written, appended onto an empty slice. Conditions: at most nine hundred thousand bytes.
-/
import Derived.Test.YtpkipinamlbdoaaGreatDoorIX
namespace Go.Proofs.YtpkipinamlbdoaaGreatDoor
open Go Go.RowKit

theorem ZD_size : ZD.size = 71 := by rw [ZD_eq]; exact digv_size _ _ _ _ (by simp)
theorem digv_one (s : S5) (x : List UInt8) (nx len : Nat) : (digv s x nx len).all (·.oneCell') = true := by
  refine Array.all_eq_true_iff_forall_mem.2 fun v hv => ?_
  simp only [digv, digL, List.mem_toArray, List.mem_append, List.mem_cons, List.not_mem_nil, or_false] at hv
  rcases hv with h | h | h
  · rcases h with rfl | rfl | rfl | rfl | rfl <;> rfl
  · exact bv_one x v h
  · rcases h with rfl | rfl <;> rfl
theorem Res.base {w0 w w' : World} {v r : Value} {l : List UInt8} (h : Res w w' v r l) (hb : w0.heap.size ≤ w.heap.size) : Res w0 w' v r l := by
  obtain ⟨g, off, cap, cur, T, h1, h2, h3, h4, h5, h6, h7⟩ := h
  refine ⟨g, off, cap, cur, T, h1, h2, h3, h4, h5, h6, ?_⟩
  rcases h7 with h7 | h7
  · exact .inl (Nat.le_trans hb h7)
  · exact .inr h7
theorem Res.upd {S : Nat → Prop} {w w1 w2 : World} {v r : Value} {l : List UInt8} (h : Res w w1 v r l) (hu : Upd S w1 w2) (hs : ∀ k, r.ownBlock = some k → ¬ S k) : Res w w2 v r l := by
  obtain ⟨g, off, cap, cur, T, rfl, h2, h3, h4, h5, h6, h7⟩ := h
  exact ⟨g, off, cap, cur, T, rfl, h2.upd hu (hs g rfl), h3, h4, h5, h6.upd hu (hs g rfl), h7⟩
set_option maxRecDepth 100000 in
set_option maxHeartbeats 4000000 in
theorem sumd_any (g : Nat) (v : Value) (data : List UInt8) (w : World) (hd : Dig w g data) (hv : Emp w v) (hlen : data.length ≤ 900000) :
    Calls Tryz.prog 101 #[.pointer (some ⟨g, 0, none⟩), v] w fun e w' => ∃ r, e = .returned r ∧ Res w w' v r (sha1Of data) ∧ Spill v w w' := by
  obtain ⟨x, hx, hw, hb⟩ := hd
  have HX := Lib.hid hx
  have HW := Lib.hid hw
  have HB := Lib.hid hb
  have HV := Lib.hid hv
  have hs71 : (digv (stOf data) x (data.length % 64) data.length).size = 71 := digv_size _ _ _ _ hx
  have HS71 := Lib.hid hs71
  have hone := digv_one (stOf data) x (data.length % 64) data.length
  have HONE := Lib.hid hone
  have hdig : ∀ w' g', Blk w' g' (digv (stOf data) x (data.length % 64) data.length) 115 → Dig w' g' data := fun w' g' h => ⟨x, hx, hw, h⟩
  have HDIG := Lib.hid hdig
  clear hx hw hb hv hs71 hone hdig
  generalize digv (stOf data) x (data.length % 64) data.length = dv at *
  go_enter Tryz.func101, Tryz.ntmps101
  go_upto_region 2 with (first
    | (refine wpList_alloc_of run_alloc115 rfl rfl ?_)
    | (refine wpList_load_row rfl 115 (.tmp 8) rfl g rfl 115 dv (0, 0) _ HB.out Tryz.underlying115 rfl (by rw [HS71.out]; exact info115) ?_)
    | (refine wpList_store_row rfl 115 (.tmp 5) (.tmp 9) rfl w.heap.size dv rfl rfl 115 ZD (Blk.new _ _ _) (by rw [HS71.out]; exact info115) (by rw [HS71.out, ZD_size]) HONE.out ?_))
  have HD2 : Hid (Dig ((w.alloc (.cells ZD 115)).setRow w.heap.size dv) w.heap.size data) := HDIG.out _ _ (Blk.row (Blk.new _ _ _) _)
  have HU2 : Hid (Fresh w ((w.alloc (.cells ZD 115)).setRow w.heap.size dv)) := ((Upd.refl (fun _ => False) w).alloc _).newer (T := fun k => k = w.heap.size) ⟨rfl, rfl, rfl, by simp [World.setRow], fun k _ hk => setRow_other _ _ _ _ hk⟩ (fun k hk => by omega)
  generalize (w.alloc (.cells ZD 115)).setRow w.heap.size dv = w2 at *
  go_wp2_with fail
  refine (checkSum_any w.heap.size data w2 HD2.out hlen).mono ?_
  rintro e w3 ⟨rfl, hu⟩
  have HU3 : Hid (Fresh w w3) := HU2.out.newer hu (fun k e => by omega)
  have hsz : (bv (sha1Of data)).toArray.size = 20 := by simp [sha1Of_length]
  have HSZ := Lib.hid hsz
  have hone2 : (bv (sha1Of data)).toArray.all (·.oneCell') = true := Array.all_eq_true_iff_forall_mem.2 fun v hv => bv_one (sha1Of data) v (by simpa using hv)
  have HONE2 := Lib.hid hone2
  have HL20 := Lib.hid (sha1Of_length data)
  clear hu hsz hone2 HU2 HD2
  generalize hout : sha1Of data = out at *
  have HOUT := Lib.hid hout
  clear hout
  go_upto_region 3 with (first
    | (refine wpList_alloc_of run_alloc166 rfl rfl ?_)
    | (refine wpList_store_row rfl 166 (.tmp 6) (.tmp 10) rfl w3.heap.size (bv out).toArray rfl rfl 166 (Zb 20) (Blk.new _ _ _) (by rw [HSZ.out]; exact info166) (by rw [HSZ.out, Zb_size]) HONE2.out ?_))
  have HB4 : Hid (Blk ((w3.alloc (.cells (Zb 20) 166)).setRow w3.heap.size (bv out).toArray) w3.heap.size (bv out).toArray 166) := Blk.row (Blk.new _ _ _) _
  have HU4 : Hid (Fresh w ((w3.alloc (.cells (Zb 20) 166)).setRow w3.heap.size (bv out).toArray)) := ((HU3.out).alloc _).newer (T := fun k => k = w3.heap.size) ⟨rfl, rfl, rfl, by simp [World.setRow], fun k _ hk => setRow_other _ _ _ _ hk⟩ (fun k hk => by have := HU3.out.size; omega)
  generalize (w3.alloc (.cells (Zb 20) 166)).setRow w3.heap.size (bv out).toArray = w4 at *
  have hsz4 : w.heap.size ≤ w4.heap.size := HU4.out.size
  go_wp2_with (at_builtin; go_must (refine wpList_app0 rfl (.tmp 11) (.tmp 12) rfl v w3.heap.size 0 20 20 out rfl (HV.out.upd HU4.out (fun _ _ f => f)) rfl HL20.out.symm HB4.out.bytesT (by have := HL20.out; omega) (by have := HL20.out; omega) ?_))
  intro v5 w5 hres hsp
  have HR := Lib.hid (hres.base hsz4)
  have HSP := Lib.hid ((Spill.of_fresh (v := v) HU4.out).trans hsp)
  clear hres hsp HB4
  go_wp2
  go_ret
  rw [HOUT.out]
  exact ⟨v5, rfl, HR.out, HSP.out⟩
end Go.Proofs.YtpkipinamlbdoaaGreatDoor

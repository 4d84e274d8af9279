/-
  codeOf, the library's Decode, decoded, Marked and Signed where the bytes are a message that ends with an integrity and a fingerprint. Conditions: as each part says.
  The walk of codeOf at no error and at the two errors of a mismatch. Condition: the three error variables are laid.
  The walk of the library's Decode into an empty message, where the bytes are a message. Condition: at most 100000 bytes.
  The walk of decoded where the bytes are a message. Condition: at most 100000 bytes.
  The walk of Marked where the bytes are a message with a fingerprint of four bytes. Condition: at most 65000 bytes.
  The walk of Signed where the bytes are a message with an integrity of twenty bytes. Condition: at most 65000 bytes; a key of at most 100000.
-/
import Derived.Test.YtpkipinamlbdoaaGreatDoorMH
namespace Go.Proofs.YtpkipinamlbdoaaGreatDoor
open Go Go.RowKit
theorem comp146 : (Tryz.prog.info? 146).map (·.comparable) = some true := by kernel_rfl
theorem info180e : (Tryz.prog.info? 180).map (fun i => decide (i.size ≠ 0)) = some true := by kernel_rfl
/-- An error that points to a block. -/
def errAt (a : Addr) : Value := .iface 146 (.pointer (some a))
theorem err_same (a : Addr) (w : World) : (binOp .eql 47 (.iface 146 (.pointer (some a))) (.iface 146 (.pointer (some a)))).run Tryz.prog w = .ok (.bool true) w := by
  obtain ⟨i, h1, h2⟩ := Option.map_eq_some_iff.1 comp146
  obtain ⟨j, k1, _⟩ := Option.map_eq_some_iff.1 info180e
  exact run_eql_iface_ptr_same w a Tryz.underlying47 Tryz.underlying146 h1 h2 k1
theorem err_other (a b : Addr) (hne : a ≠ b) (ca cb : Array Value) (ta tb : TypeId) (w : World) (ha : w.heap[a.block]? = some (.cells ca ta (0, 0))) (hb : w.heap[b.block]? = some (.cells cb tb (0, 0))) :
    (binOp .eql 47 (.iface 146 (.pointer (some a))) (.iface 146 (.pointer (some b)))).run Tryz.prog w = .ok (.bool false) w := by
  obtain ⟨i, h1, h2⟩ := Option.map_eq_some_iff.1 comp146
  obtain ⟨j, k1, k2⟩ := Option.map_eq_some_iff.1 info180e
  exact run_eql_iface_ptr_other (w := w) Tryz.underlying47 Tryz.underlying146 h1 h2 k1 (by simpa using k2) hne ha hb
/-- The three error variables, laid. -/
structure Errs (a0 a1 a2 : Addr) (w : World) : Prop where
  g0 : w.cell? ⟨0, 0, none⟩ = some (.iface 146 (.pointer (some a0)))
  g1 : w.cell? ⟨1, 0, none⟩ = some (.iface 146 (.pointer (some a1)))
  g2 : w.cell? ⟨2, 0, none⟩ = some (.iface 146 (.pointer (some a2)))
  b0 : ∃ c t, w.heap[a0.block]? = some (.cells c t (0, 0))
  b1 : ∃ c t, w.heap[a1.block]? = some (.cells c t (0, 0))
  b2 : ∃ c t, w.heap[a2.block]? = some (.cells c t (0, 0))
  n10 : a1 ≠ a0
  n20 : a2 ≠ a0
  n21 : a2 ≠ a1
set_option maxRecDepth 100000 in
set_option maxHeartbeats 4000000 in
theorem codeOf_nil (w : World) : Calls Tryz.prog 14 #[.nilIface] w fun e w' => e = .returned (.int .i64 0) ∧ w' = w := by
  go_enter Tryz.func14, Tryz.ntmps14
  go_wp2
  go_ret
  exact ⟨rfl, rfl⟩
set_option maxRecDepth 100000 in
set_option maxHeartbeats 4000000 in
theorem codeOf_integrity (a0 a1 a2 : Addr) (w : World) (h : Errs a0 a1 a2 w) : Calls Tryz.prog 14 #[.iface 146 (.pointer (some a1))] w fun e w' => e = .returned (.int .i64 8) ∧ w' = w := by
  obtain ⟨g0, g1, g2, ⟨c0, t0, b0⟩, ⟨c1, t1, b1⟩, ⟨c2, t2, b2⟩, n10, n20, n21⟩ := h
  have e10 := err_other a1 a0 n10 _ _ _ _ w b1 b0
  have e11 := err_same a1 w
  clear b0 b1 b2
  go_enter Tryz.func14, Tryz.ntmps14
  go_wp2
  go_ret
  exact ⟨rfl, rfl⟩
set_option maxRecDepth 100000 in
set_option maxHeartbeats 4000000 in
theorem codeOf_fingerprint (a0 a1 a2 : Addr) (w : World) (h : Errs a0 a1 a2 w) : Calls Tryz.prog 14 #[.iface 146 (.pointer (some a2))] w fun e w' => e = .returned (.int .i64 9) ∧ w' = w := by
  obtain ⟨g0, g1, g2, ⟨c0, t0, b0⟩, ⟨c1, t1, b1⟩, ⟨c2, t2, b2⟩, n10, n20, n21⟩ := h
  have e20 := err_other a2 a0 n20 _ _ _ _ w b2 b0
  have e21 := err_other a2 a1 n21 _ _ _ _ w b2 b1
  have e22 := err_same a2 w
  clear b0 b1 b2
  go_enter Tryz.func14, Tryz.ntmps14
  go_wp2
  go_ret
  exact ⟨rfl, rfl⟩
end Go.Proofs.YtpkipinamlbdoaaGreatDoor
namespace Go.Proofs.YtpkipinamlbdoaaGreatDoor
open Go Go.RowKit
set_option maxRecDepth 100000 in
set_option maxHeartbeats 8000000 in
theorem sdecode_any (gm : Nat) (A : Option Addr) (n c : Nat) (cur : Array Value) (l : List UInt8) (ats : List (Nat × List UInt8)) (w : World) (hb : Blk w gm cur 65) (hs : cur.size = 18) (h15 : cur[15]? = some (.slice none 0 0)) (h16 : cur[16]? = some (.slice none 0 0)) (h17 : cur[17]? = some (.bool false))
    (hd : Rd w (.slice A n c) l) (h20 : 20 ≤ l.length) (hlen : l.length ≤ 100000) (hdec : decodeL l = some ats) :
    Calls Tryz.prog 23 #[.slice A n c, .pointer (some ⟨gm, 0, none⟩)] w fun e w' => e = .returned .nilIface ∧ Upd (fun k => k = gm) w w' ∧
      ∃ gr cr rc base, MsgAt w' gm gr base l.length cr l ats ∧ Blk w' gr rc 5 ∧ rc.size = cr ∧ rc.toList.take l.length = bv l ∧ l.length ≤ cr ∧ cr ≤ maxLen ∧ w.heap.size ≤ gr := by
  have HD := Lib.hid hd
  have HB := Lib.hid hb
  have HS := Lib.hid hs
  have H15 := Lib.hid h15
  have H17 := Lib.hid h17
  have HDEC := Lib.hid hdec
  have c16 : w.cell? ⟨gm, 16, none⟩ = some (.slice none 0 0) := by rw [hb.cell]; exact h16
  obtain rfl := hd.len
  have HO : Hid (Own w w.heap.size (.slice none 0 0) []) := ⟨rfl, .inl ⟨rfl, rfl⟩⟩
  clear hd hb hs h15 h16 h17 hdec
  go_enter Tryz.func23, Tryz.ntmps23
  go_wp2_with (at_builtin; go_must (refine wpList_app rfl (.tmp 13) (.tmp 14) rfl w.heap.size _ _ [] l rfl HO.out rfl HD.out (by simp; omega) (Nat.le_refl _) ?_))
  intro v w1 hown hgrow
  have hu1 : Fresh w w1 := (Upd.refl (fun _ => False) w).grown hgrow (fun k hk _ => by cases hk)
  have HU1 : Hid (Fresh w w1) := hu1
  have hown' : Own w1 w.heap.size v l := by simpa using hown
  obtain ⟨_, ⟨_, he⟩ | ⟨gr, cap, rc, rfl, hgr, hrb, hlc, hcm, hsz, htk⟩⟩ := hown'
  · omega
  have HRB : Hid (Blk w1 gr rc 5) := hrb
  have HSZ : Hid (rc.size = cap ∧ rc.toList.take l.length = bv l ∧ l.length ≤ cap ∧ cap ≤ maxLen ∧ w.heap.size ≤ gr) := ⟨by simpa using hsz, by simpa using htk, hlc, hcm, hgr⟩
  have HB1 := Lib.hid (HB.out.upd hu1 (fun f => f))
  have c16' : w1.cell? ⟨gm, 16, none⟩ = some (.slice none 0 0) := hu1.cell (fun f => f) c16
  have f16 : w1.frozen? ⟨gm, 16, none⟩ = false := HB1.out.free 16
  have hne : Hid (gr ≠ gm) := by show _ ≠ _; have := HB.out.lt; omega
  clear hown hgrow hu1 hrb hsz htk hgr c16
  have hu2 : Upd (fun q => q = gm) w1 (w1.setCell ⟨gm, 16, none⟩ (.slice (some ⟨gr, 0, none⟩) l.length cap)) := Upd.setCell (S := fun q => q = gm) (Upd.refl _ w1) (p := ⟨gm, 16, none⟩) (fun _ => rfl) _
  have HU2 : Hid (Upd (fun q => q = gm) w1 (w1.setCell ⟨gm, 16, none⟩ (.slice (some ⟨gr, 0, none⟩) l.length cap))) := hu2
  have HB2 := Lib.hid (HB1.out.set 16 (.slice (some ⟨gr, 0, none⟩) l.length cap))
  clear hu2
  go_wp2_with fail
  clear c16' f16
  generalize w1.setCell ⟨gm, 16, none⟩ (.slice (some ⟨gr, 0, none⟩) l.length cap) = w2 at *
  have HR2 := Lib.hid (HRB.out.upd HU2.out hne.out)
  have hsc := HS.out
  have HMD := Lib.hid (mdecode_any gm gr l.length cap _ l ats w2 HB2.out (by simp [hsc]) (by rw [Array.getElem?_setIfInBounds_ne (by omega)]; exact H15.out) (by rw [Array.getElem?_setIfInBounds_self]; simp [hsc]) (by rw [Array.getElem?_setIfInBounds_ne (by omega)]; exact H17.out)
    (HR2.out.low HSZ.out.2.1) rfl hlc hcm hne.out hlen HDEC.out)
  refine Calls.mono HMD.out ?_
  rintro e w3 ⟨rfl, hm3, hu3⟩
  have HM3 := Lib.hid hm3
  have HU3 : Hid (Upd (fun k => k = gm) w2 w3) := hu3
  clear hm3 hu3 HMD hsc
  go_wp2_with fail
  go_ret
  exact ⟨rfl, ((HU1.out.mono (fun _ _ f => f.elim)).trans HU2.out).trans HU3.out, gr, cap, rc, _, HM3.out, HR2.out.upd HU3.out hne.out, HSZ.out.1, HSZ.out.2.1, hlc, hcm, HSZ.out.2.2.2.2⟩
end Go.Proofs.YtpkipinamlbdoaaGreatDoor
namespace Go.Proofs.YtpkipinamlbdoaaGreatDoor
open Go Go.RowKit
/-- An empty message of the library. -/
def ZL : Array Value := #[.int .u16 0, .int .u8 0, .int .u32 0, .int .u8 0, .int .u8 0, .int .u8 0, .int .u8 0, .int .u8 0, .int .u8 0, .int .u8 0, .int .u8 0, .int .u8 0, .int .u8 0, .int .u8 0, .int .u8 0, .slice none 0 0, .slice none 0 0, .bool false]
theorem run_alloc65 (w : World) : (Instr.alloc 65 true (.tuple #[])).run Tryz.prog w = .ok (.pointer (some ⟨w.heap.size, 0, none⟩)) (w.alloc (.cells ZL 65)) := by kernel_rfl
set_option maxRecDepth 100000 in
set_option maxHeartbeats 8000000 in
theorem decoded_any (A : Option Addr) (n c : Nat) (l : List UInt8) (ats : List (Nat × List UInt8)) (w : World) (hd : Rd w (.slice A n c) l) (h20 : 20 ≤ l.length) (hlen : l.length ≤ 100000) (hdec : decodeL l = some ats) :
    Calls Tryz.prog 13 #[.slice A n c] w fun e w' => ∃ gm gr cr rc base, e = .returned (.tuple #[.pointer (some ⟨gm, 0, none⟩), .bool true]) ∧ Fresh w w' ∧
      MsgAt w' gm gr base l.length cr l ats ∧ Blk w' gr rc 5 ∧ rc.size = cr ∧ rc.toList.take l.length = bv l ∧ l.length ≤ cr ∧ cr ≤ maxLen ∧ w.heap.size ≤ gr ∧ w.heap.size ≤ gm ∧ gr ≠ gm := by
  have HD := Lib.hid hd
  have HDEC := Lib.hid hdec
  have halloc := run_alloc65 w
  clear hd hdec
  go_enter Tryz.func13, Tryz.ntmps13
  go_upto_region 2 with fail
  have HF0 : Hid (Fresh w (w.alloc (.cells ZL 65))) := (Upd.refl _ w).alloc _
  obtain ⟨gm, hgm⟩ : ∃ gm, gm = w.heap.size := ⟨_, rfl⟩
  have HB0 : Hid (Blk (w.alloc (.cells ZL 65)) gm ZL 65) := by rw [hgm]; exact heap_alloc_new w _
  have HS0 : Hid (gm < (w.alloc (.cells ZL 65)).heap.size) := HB0.out.lt
  rw [← hgm]
  have HGM : Hid (w.heap.size = gm) := hgm.symm
  clear hgm
  show Code.wp _ _ _ _ (w.alloc (.cells ZL 65))
  generalize w.alloc (.cells ZL 65) = w0 at *
  have hdr : Fresh w0 w0.drew := (Upd.refl _ w0).drew
  have HDR : Hid (Fresh w0 w0.drew) := hdr
  have HCP := Lib.hid (copied_any A n c l w0.drew ((HD.out.upd HF0.out (fun _ _ f => f)).upd hdr (fun _ _ f => f)) (by omega))
  clear hdr halloc
  go_region_held3 (fun _ => True) (first | trivial) (first | (go_at_call 15; refine Calls.mono HCP.out ?_; rintro e w1 ⟨r, rfl, hown, hu1⟩; obtain ⟨rg, rc', rfl, _⟩ := Own.form hown (by omega); have hd1 := Own.rd hown; have hk1 := HDR.out.fresh hu1) | (go_at_call 23; refine Calls.mono (sdecode_any gm (some ⟨rg, 0, none⟩) l.length rc' ZL l ats w1 (HB0.out.upd hk1 (fun f => f)) rfl rfl rfl rfl hd1 h20 hlen HDEC.out) ?_; rintro e w2 ⟨rfl, hu2, gr, cr, rc, base, hm, hbr, hrs, hrt, hlc, hcm, hgr⟩))
  have HU := Lib.hid hu2
  go_wp2_with fail
  go_ret2
  have hg2 : w.heap.size ≤ w0.heap.size := HF0.out.size
  have hg3 : w0.heap.size ≤ w1.heap.size := hk1.size
  have hs0 := HS0.out
  refine ⟨gm, gr, cr, rc, base, rfl, (HF0.out.fresh hk1).newer HU.out (fun k e => by have := HGM.out; omega), hm, hbr, hrs, hrt, hlc, hcm, by omega, by have := HGM.out; omega, by omega⟩
end Go.Proofs.YtpkipinamlbdoaaGreatDoor
namespace Go.Proofs.YtpkipinamlbdoaaGreatDoor
open Go Go.RowKit
theorem Errs.fresh {a0 a1 a2 : Addr} {w w' : World} (h : Errs a0 a1 a2 w) (hu : Fresh w w') : Errs a0 a1 a2 w' := by
  obtain ⟨g0, g1, g2, ⟨c0, t0, b0⟩, ⟨c1, t1, b1⟩, ⟨c2, t2, b2⟩, n10, n20, n21⟩ := h
  exact ⟨hu.cell (fun f => f) g0, hu.cell (fun f => f) g1, hu.cell (fun f => f) g2, ⟨c0, t0, Blk.upd (w := w) b0 hu (fun f => f)⟩, ⟨c1, t1, Blk.upd (w := w) b1 hu (fun f => f)⟩, ⟨c2, t2, Blk.upd (w := w) b2 hu (fun f => f)⟩, n10, n20, n21⟩
set_option maxRecDepth 100000 in
set_option maxHeartbeats 8000000 in
theorem marked_any (a0 a1 a2 : Addr) (A : Option Addr) (n c k : Nat) (l : List UInt8) (ats : List (Nat × List UInt8)) (x0 x1 x2 x3 : UInt8) (w : World) (hE : Errs a0 a1 a2 w) (hd : Rd w (.slice A n c) l) (h24 : 24 ≤ l.length) (hlen : l.length ≤ 65000) (hdec : decodeL l = some ats)
    (hk : k < ats.length) (hT : compat (ats[k]).1 = 32808) (hfirst : ∀ i (h : i < ats.length), i < k → compat (ats[i]).1 ≠ 32808) (hv4 : (ats[k]).2 = [x0, x1, x2, x3]) (hval : (l.drop (20 + reach (ats.take k) + 4)).take 4 = (ats[k]).2) (hra : 20 + reach ats ≤ l.length) :
    Calls Tryz.prog 7 #[.slice A n c] w fun e w' => e = .returned (.int .i64 (if be32 x0 x1 x2 x3 = fpOf (l.take (l.length - 8)) then 0 else 9)) ∧ Fresh w w' := by
  have HDE := Lib.hid (decoded_any A n c l ats w hd (by omega) (by omega) hdec)
  have HFP : Hid _ := fpcheck_any (k := k) (l := l) (ats := ats) (x0 := x0) (x1 := x1) (x2 := x2) (x3 := x3)
  have HV4 := Lib.hid hv4
  have HT := Lib.hid hT
  have HF := Lib.hid hfirst
  have HVAL := Lib.hid hval
  have HE := Lib.hid hE
  clear hd hdec hT hfirst hv4 hval hE
  go_enter Tryz.func7, Tryz.ntmps7
  go_wp2_with fail
  refine Calls.mono HDE.out ?_
  rintro e w1 ⟨gm, gr, cr, rc, base, rfl, hu1, ⟨cur, S, xs, hb, hs, h2, h15, h16, hown, hrow⟩, hrb, hrs, hrt, hlc, hcm, hgr, hgm, hne⟩
  have HU1 : Hid (Fresh w w1) := hu1
  obtain ⟨g0, g1, g2, b0, b1, b2, n10, n20, n21⟩ := HE.out
  have e2 : w1.cell? ⟨2, 0, none⟩ = some (.iface 146 (.pointer (some a2))) := hu1.cell (fun f => f) g2
  have HCK := Lib.hid (fpcheck_any gm gr l.length cr k base l S xs ats x0 x1 x2 x3 (.iface 146 (.pointer (some a2))) w1 (by rw [hb.cell]; exact h15) (by rw [hb.cell]; exact h16) hown hrow (hrb.low hrt) rfl hlc hcm hlen h24 hk HT.out HF.out HV4.out HVAL.out hra e2)
  clear hu1 hb hs h2 h15 h16 hown hrow hrb hrs hrt HFP HDE g0 g1 g2 b0 b1 b2 n10 n20 n21 e2
  go_wp2_with fail
  refine Calls.mono HCK.out ?_
  rintro e w2 ⟨rfl, hu2⟩
  have HU2 : Hid (Fresh w w2) := HU1.out.fresh hu2
  have HE2 := Lib.hid (HE.out.fresh HU2.out)
  clear hu2 HCK
  by_cases hq : be32 x0 x1 x2 x3 = fpOf (l.take (l.length - 8))
  · have HQ : Hid (sameW (be32 x0 x1 x2 x3) (fpOf (l.take (l.length - 8))) (.iface 146 (.pointer (some a2))) = .nilIface) := by show _ = _; unfold sameW; rw [if_pos hq]
    rw [HQ.out]
    have HIF := Lib.hid hq
    clear hq
    go_wp2_with fail
    refine Calls.mono (codeOf_nil w2) ?_
    rintro e w3 ⟨rfl, rfl⟩
    go_wp2_with fail
    go_ret
    exact ⟨rfl, HU2.out⟩
  · have HQ : Hid (sameW (be32 x0 x1 x2 x3) (fpOf (l.take (l.length - 8))) (.iface 146 (.pointer (some a2))) = .iface 146 (.pointer (some a2))) := by show _ = _; unfold sameW; rw [if_neg hq]
    rw [HQ.out]
    have HIF := Lib.hid hq
    clear hq
    go_wp2_with fail
    refine Calls.mono (codeOf_fingerprint a0 a1 a2 w2 HE2.out) ?_
    rintro e w3 ⟨rfl, rfl⟩
    go_wp2_with fail
    go_ret
    exact ⟨rfl, HU2.out⟩
end Go.Proofs.YtpkipinamlbdoaaGreatDoor
namespace Go.Proofs.YtpkipinamlbdoaaGreatDoor
open Go Go.RowKit
set_option maxRecDepth 100000 in
set_option maxHeartbeats 8000000 in
theorem signed_any (a0 a1 a2 : Addr) (A B : Option Addr) (n c nk ck k : Nat) (l key : List UInt8) (ats : List (Nat × List UInt8)) (w : World) (hE : Errs a0 a1 a2 w) (hd : Rd w (.slice A n c) l) (hkey : Rd w (.slice B nk ck) key) (hkl : key.length ≤ 100000) (hlen : l.length ≤ 65000) (hdec : decodeL l = some ats)
    (hk : k < ats.length) (hT : compat (ats[k]).1 = 8) (hfirst : ∀ i (h : i < ats.length), i < k → compat (ats[i]).1 ≠ 8) (hv20 : (ats[k]).2.length = 20) (hreach : 20 + reach (ats.take k) + 24 ≤ l.length) (hval : (l.drop (20 + reach (ats.take k) + 4)).take 20 = (ats[k]).2) (hra : 20 + reach ats ≤ l.length) (hN : num l 2 2 < 65536) :
    Calls Tryz.prog 6 #[.slice A n c, .slice B nk ck] w fun e w' => e = .returned (.int .i64 (if (ats[k]).2 = macOf key ((lenSet (reach (ats.take k) + 24) l).take (20 + reach (ats.take k))) then 0 else 8)) ∧ Fresh w w' := by
  have HDE := Lib.hid (decoded_any A n c l ats w hd (by omega) (by omega) hdec)
  have HT := Lib.hid hT
  have HF := Lib.hid hfirst
  have HVAL := Lib.hid hval
  have HV20 := Lib.hid hv20
  have HR := Lib.hid hreach
  have HK := Lib.hid hkey
  have HE := Lib.hid hE
  clear hd hdec hT hfirst hval hE hkey hv20 hreach
  go_enter Tryz.func6, Tryz.ntmps6
  go_wp2_with fail
  refine Calls.mono HDE.out ?_
  rintro e w1 ⟨gm, gr, cr, rc, base, rfl, hu1, ⟨cur, S, xs, hb, hs, h2, h15, h16, hown, hrow⟩, hrb, hrs, hrt, hlc, hcm, hgr, hgm, hne⟩
  have HU1 : Hid (Fresh w w1) := hu1
  have HCP := Lib.hid (copied_any B nk ck key w1 (HK.out.upd hu1 (fun _ _ f => f)) (by omega))
  clear HDE
  go_wp2_with fail
  refine Calls.mono HCP.out ?_
  rintro e w2 ⟨r, rfl, hor, hu2⟩
  have HU2 : Hid (Fresh w w2) := HU1.out.fresh hu2
  obtain ⟨rA, rn, rcp, rfl⟩ : ∃ A n c, r = .slice A n c := by
    obtain ⟨_, ⟨h, _⟩ | ⟨g, cap, cc, h, _⟩⟩ := hor
    · exact ⟨_, _, _, h⟩
    · exact ⟨_, _, _, h⟩
  have hkb : ∀ q, (Value.slice rA rn rcp).ownBlock = some q → w1.heap.size ≤ q := by
    obtain ⟨_, ⟨h, _⟩ | ⟨g, cap, cc, h, hg, _⟩⟩ := hor
    · intro q e; rw [h] at e; cases e
    · intro q e; rw [h] at e; cases e; exact hg
  have hsb : ∀ q, S.ownBlock = some q → q ≠ gm ∧ q ≠ gr := by
    obtain ⟨_, ⟨h, _⟩ | ⟨g, cap, cc, h, _, hg, _⟩⟩ := hown
    · intro q e; rw [h] at e; cases e
    · intro q e; rw [h] at e
      obtain rfl : g = q := Option.some.inj e
      refine ⟨fun e => ?_, fun e => ?_⟩
      · subst e; have hb' : w1.heap[g]? = some (.cells cur 65 (0, 0)) := hb
        rw [hb'] at hg; simp at hg
      · subst e; have hb' : w1.heap[g]? = some (.cells rc 5 (0, 0)) := hrb
        rw [hb'] at hg; simp at hg
  have e1 : w2.cell? ⟨1, 0, none⟩ = some (.iface 146 (.pointer (some a1))) := HU2.out.cell (fun f => f) HE.out.g1
  have hg1 : 1 < w.heap.size := World.block_lt_of_cell? _ _ HE.out.g1
  have hl1 := hb.lt
  have hl2 := hrb.lt
  have HCK := Lib.hid (check_any gm gr l.length cr (num l 2 2) k rn rcp base rA key l cur rc S xs ats (.iface 146 (.pointer (some a1))) w2 (hb.upd hu2 (fun f => f)) hs h2 h15 h16 (owns_upd hown hu2 (fun _ _ f => f) (Nat.le_refl _)) hrow (hrb.upd hu2 (fun f => f)) hrs hrt rfl hlc hcm hlen hN (fun e => hne e.symm) (Own.rd hor) hkl (fun q e => by have := hkb q e; omega) hsb hk HT.out HF.out HV20.out HR.out HVAL.out hra e1 (by omega))
  have HGO : Hid _ := HCK.out
  clear HCP hu1 hu2 hb hs h2 h15 h16 hown hrow hrb hrs hrt hor hkb hsb e1 hg1 hl1 hl2 HGO
  go_wp2_with fail
  refine Calls.mono HCK.out ?_
  rintro e w3 ⟨rfl, hu3⟩
  have HU3 : Hid (Fresh w w3) := HU2.out.newer hu3 (fun k e => by omega)
  clear hu3 HCK
  have HE3 := Lib.hid (HE.out.fresh HU3.out)
  by_cases hq : (ats[k]).2 = (macOf key ((lenSet (reach (ats.take k) + 24) l).take (20 + reach (ats.take k))))
  · have HQ : Hid (same (ats[k]).2 (macOf key ((lenSet (reach (ats.take k) + 24) l).take (20 + reach (ats.take k)))) (.iface 146 (.pointer (some a1))) = .nilIface) := by show _ = _; unfold same; rw [if_pos hq]
    rw [HQ.out]
    have HIF := Lib.hid hq
    clear hq
    go_wp2_with fail
    refine Calls.mono (codeOf_nil w3) ?_
    rintro e w4 ⟨rfl, rfl⟩
    go_wp2_with fail
    all_goals go_ret
    all_goals first | exact ⟨rfl, HU3.out⟩ | (exfalso; first | exact absurd HIF.out (by assumption) | exact HIF.out (by assumption))
  · have HQ : Hid (same (ats[k]).2 (macOf key ((lenSet (reach (ats.take k) + 24) l).take (20 + reach (ats.take k)))) (.iface 146 (.pointer (some a1))) = .iface 146 (.pointer (some a1))) := by show _ = _; unfold same; rw [if_neg hq]
    rw [HQ.out]
    have HIF := Lib.hid hq
    clear hq
    go_wp2_with fail
    refine Calls.mono (codeOf_integrity a0 a1 a2 w3 HE3.out) ?_
    rintro e w4 ⟨rfl, rfl⟩
    go_wp2_with fail
    all_goals go_ret
    all_goals first | exact ⟨rfl, HU3.out⟩ | (exfalso; first | exact absurd HIF.out (by assumption) | exact HIF.out (by assumption))
end Go.Proofs.YtpkipinamlbdoaaGreatDoor

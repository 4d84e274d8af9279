/-
  The walks of the library's HMAC: Write, Sum. Conditions: some bytes, at most eight hundred thousand.
-/
import Derived.Test.YtpkipinamlbdoaaGreatDoorIY
import Derived.Handy
import Derived.Deep.RegionHeld3
import Derived.Lib.Hide
namespace Go.Proofs.YtpkipinamlbdoaaGreatDoor
open Go Go.RowKit

abbrev dgI (g : Nat) : Value := .iface 89 (.pointer (some ⟨g, 0, none⟩))
set_option maxRecDepth 100000 in
set_option maxHeartbeats 2000000 in
theorem hwrite_any (gh gi b o n c : Nat) (data p : List UInt8) (w : World) (hc : w.cell? ⟨gh, 3, none⟩ = some (dgI gi)) (hd : Dig w gi data) (hp : Bytes w b o p) (hn : n = p.length) (hnc : n ≤ c) (hcm : c ≤ maxLen) (hgb : b ≠ gi) (h0 : 0 < n) (hlen : data.length + p.length ≤ 1000000) :
    Calls Tryz.prog 45 #[.pointer (some ⟨gh, 0, none⟩), .slice (some ⟨b, o, none⟩) n c] w fun e w' => e = .returned (.tuple #[.int .i64 n, .nilIface]) ∧ Dig w' gi (data ++ p) ∧ Upd (fun k => k = gi) w w' := by
  have HC := Lib.hid (write_any gi b o n c data p w hd hp hn hnc hcm hgb h0 hlen)
  clear hd hp hn hnc hcm hgb h0 hlen
  go_enter Tryz.func45, Tryz.ntmps45
  go_wp2_with fail
  refine Calls.mono HC.out ?_
  rintro e w1 ⟨rfl, hd, hu⟩
  have HD := Lib.hid hd
  have HU := Lib.hid hu
  clear hd hu
  go_wp2
  go_ret2
  exact ⟨rfl, HD.out, HU.out⟩
/-- What lies ahead of v's place is as it was. -/
def KeepLow (v : Value) (w w' : World) : Prop := ∀ g off n c cur T, v = .slice (some ⟨g, off, none⟩) n c → Blk w g cur T → ∃ cur' : Array Value, Blk w' g cur' T ∧ cur'.size = cur.size ∧ ∀ j, j < off → cur'[j]? = cur[j]?
theorem KeepLow.of_upd {S : Nat → Prop} {v : Value} {w w' : World} (h : Upd S w w') (hs : ∀ k, v.ownBlock = some k → ¬ S k) : KeepLow v w w' :=
  fun g off n c cur T hv hb => ⟨cur, hb.upd h (hs g (by rw [hv]; rfl)), rfl, fun _ _ => rfl⟩
theorem KeepLow.trans {v : Value} {a b c : World} (h : KeepLow v a b) (k : KeepLow v b c) : KeepLow v a c := fun g off n cc cur T hv hb => by
  obtain ⟨c1, h1, h2, h3⟩ := h g off n cc cur T hv hb
  obtain ⟨c2, k1, k2, k3⟩ := k g off n cc c1 T hv h1
  exact ⟨c2, k1, k2.trans h2, fun j hj => (k3 j hj).trans (h3 j hj)⟩
/-- The same at a slice of another length at the same place. -/
theorem KeepLow.at {g off n c n' c' : Nat} {w w' : World} (h : KeepLow (.slice (some ⟨g, off, none⟩) n c) w w') : KeepLow (.slice (some ⟨g, off, none⟩) n' c') w w' := fun g2 off2 n2 c2 cur T hv hb => by
  simp only [Value.slice.injEq, Option.some.injEq, Addr.mk.injEq] at hv
  obtain ⟨⟨rfl, rfl, _⟩, _, _⟩ := hv
  exact h g off n c cur T rfl hb
set_option maxRecDepth 100000 in
set_option maxHeartbeats 8000000 in
theorem hsum_any (gh go gi gop : Nat) (ok : List UInt8) (v : Value) (data odata : List UInt8) (w : World)
    (h0 : w.cell? ⟨gh, 0, none⟩ = some (.slice (some ⟨gop, 0, none⟩) 64 64)) (h2 : w.cell? ⟨gh, 2, none⟩ = some (dgI go)) (h3 : w.cell? ⟨gh, 3, none⟩ = some (dgI gi)) (h4 : w.cell? ⟨gh, 4, none⟩ = some (.bool false))
    (hi : Dig w gi data) (ho : Dig w go odata) (hop : Blk w gop (bv ok).toArray 5) (hok : ok.length = 64) (hv : Emp w v) (hlen : data.length ≤ 900000)
    (_hgi : gi ≠ go) (hgo : gop ≠ go) (hgh : gh ≠ go) (hvb : ∀ k, v.ownBlock = some k → k ≠ gh ∧ k ≠ go ∧ k ≠ gi ∧ k ≠ gop) :
    Calls Tryz.prog 46 #[.pointer (some ⟨gh, 0, none⟩), v] w fun e w' => ∃ g off cap, e = .returned (.slice (some ⟨g, off, none⟩) 20 cap) ∧ Bytes w' g off (sha1Of (ok ++ sha1Of data)) ∧ 20 ≤ cap ∧ cap ≤ maxLen ∧
      Upd (fun k => k = go ∨ v.ownBlock = some k) w w' ∧ KeepLow v w w' ∧ (∀ A n c, v = .slice A n c → c < 20 → Upd (fun k => k = go) w w') ∧ (w.heap.size ≤ g ∨ ∃ n, v = .slice (some ⟨g, off, none⟩) n cap) := by
  have HI := Lib.hid hi
  have HO := Lib.hid ho
  have HOP := Lib.hid hop
  have HOK := Lib.hid hok
  have HV := Lib.hid hv
  have HVB := Lib.hid hvb
  have hghl : gh < w.heap.size := World.block_lt_of_cell? _ _ h0
  have hgol : go < w.heap.size := ho.lt
  have hgil : gi < w.heap.size := hi.lt
  have hgopl : gop < w.heap.size := hop.lt
  obtain ⟨A, c, rfl⟩ : ∃ A c, v = .slice A 0 c := by
    rcases hv with rfl | ⟨g, off, cap, cur, T, rfl, _⟩
    · exact ⟨none, 0, rfl⟩
    · exact ⟨_, cap, rfl⟩
  clear hi ho hop hok hv hvb
  go_enter Tryz.func46, Tryz.ntmps46
  go_wp2_with fail
  refine (sumd_any gi (.slice A 0 c) data w HI.out HV.out hlen).mono ?_
  rintro e w1 ⟨r1, rfl, hres, hsp⟩
  obtain ⟨g1, off1, cap1, cur1, T1, rfl, hb1, hfit1, hcap1, hcm1, hby1, hwh1⟩ := hres
  rw [sha1Of_length] at hcap1
  have HB1 := Lib.hid hb1
  have HFIT1 := Lib.hid hfit1
  have HBY1 := Lib.hid hby1
  have hg1 : g1 ≠ gh ∧ g1 ≠ go ∧ g1 ≠ gi ∧ g1 ≠ gop := by
    rcases hwh1 with h | ⟨n, hv⟩
    · omega
    · exact HVB.out g1 (by rw [hv]; rfl)
  have HWH1 := Lib.hid hwh1
  have HU1 := Lib.hid hsp.1
  have HK1 : Hid (KeepLow (.slice A 0 c) w w1) := hsp.2.1
  have HSM1 := Lib.hid hsp.2.2
  have hn : ∀ k, k = gh ∨ k = go ∨ k = gi ∨ k = gop → ¬ (Value.ownBlock (.slice A 0 c) = some k) := fun k hk e => by have := HVB.out k e; omega
  have k0 : w1.cell? ⟨gh, 0, none⟩ = some (.slice (some ⟨gop, 0, none⟩) 64 64) := HU1.out.cell (hn gh (by omega)) h0
  have k2 : w1.cell? ⟨gh, 2, none⟩ = some (dgI go) := HU1.out.cell (hn gh (by omega)) h2
  have k4 : w1.cell? ⟨gh, 4, none⟩ = some (.bool false) := HU1.out.cell (hn gh (by omega)) h4
  have HO1 : Hid (Dig w1 go odata) := HO.out.upd HU1.out (hn go (by omega))
  have HOP1 : Hid (Blk w1 gop (bv ok).toArray 5) := HOP.out.upd HU1.out (hn gop (by omega))
  have HN := Lib.hid hn
  clear hb1 hfit1 hby1 hwh1 hsp hn HO HOP HI h0 h2 h3 h4
  rw [sha1Of_length]
  obtain ⟨x, hx, hwx, hbx⟩ := HO1.out
  have HRS := Lib.hid (reset_any go _ x _ _ w1 hx hbx)
  clear hx hwx hbx
  go_wp2_with fail
  refine Calls.mono HRS.out ?_
  rintro e w2 ⟨rfl, hd2, hu2⟩
  have HD2 := Lib.hid hd2
  have HU2 := Lib.hid hu2
  have j0 : w2.cell? ⟨gh, 0, none⟩ = some (.slice (some ⟨gop, 0, none⟩) 64 64) := HU2.out.cell hgh k0
  have j2 : w2.cell? ⟨gh, 2, none⟩ = some (dgI go) := HU2.out.cell hgh k2
  have HOP2 : Hid (Blk w2 gop (bv ok).toArray 5) := HOP1.out.upd HU2.out hgo
  have HB2 : Hid (Blk w2 g1 cur1 T1) := HB1.out.upd HU2.out hg1.2.1
  have HBY2 : Hid (Bytes w2 g1 off1 (sha1Of data)) := HBY1.out.upd HU2.out hg1.2.1
  clear hd2 hu2 k0 k2 k4 HRS HO1 HOP1 HB1 HBY1
  go_wp2_with fail
  have hdr2 : Fresh w2 w2.drew := (Upd.refl _ w2).drew
  have HWC := Lib.hid (write_any go gop 0 64 64 [] ok w2.drew (HD2.out.upd hdr2 (fun f => f)) ((HOP2.out.upd hdr2 (fun f => f)).bytes) HOK.out.symm (Nat.le_refl _) (by unfold maxLen; omega) hgo (by omega) (by have := HOK.out; simp; omega))
  clear hdr2
  go_region_held3 (fun w' => w'.cell? ⟨gh, 0, none⟩ = some (.slice (some ⟨gop, 0, none⟩) 64 64) ∧ w'.cell? ⟨gh, 2, none⟩ = some (dgI go)) (first | go_keep) (first | (go_at_call 103; refine Calls.mono HWC.out ?_; rintro e w3 ⟨rfl, hd3, hu3⟩; have q0 : w3.cell? ⟨gh, 0, none⟩ = some (.slice (some ⟨gop, 0, none⟩) 64 64) := hu3.cell hgh j0; have q2 : w3.cell? ⟨gh, 2, none⟩ = some (dgI go) := hu3.cell hgh j2))
  have HD3 : Hid (Dig w3 go ok) := by show Dig _ _ _; simpa using hd3
  have HU3 : Hid (Upd (fun k => k = go) w2 w3) := ((Upd.refl _ w2).drew).trans hu3
  have j2 : w3.cell? ⟨gh, 2, none⟩ = some (dgI go) := HU3.out.cell hgh j2
  have HB3 : Hid (Blk w3 g1 cur1 T1) := HB2.out.upd HU3.out hg1.2.1
  have HBY3 : Hid (Bytes w3 g1 off1 (sha1Of data)) := HBY2.out.upd HU3.out hg1.2.1
  clear hd3 hu3 j0 HOP2 HB2 HBY2 HD2 HWC q0 q2
  go_wp2_with fail
  have hdr3 : Fresh w3 w3.drew := (Upd.refl _ w3).drew
  have HWD := Lib.hid (write_any go g1 off1 20 cap1 ok (sha1Of data) w3.drew (HD3.out.upd hdr3 (fun f => f)) (HBY3.out.upd hdr3 (fun f => f)) (sha1Of_length _).symm hcap1 hcm1 hg1.2.1 (by omega) (by rw [sha1Of_length, HOK.out]; omega))
  clear hdr3
  have hc20 : ¬ cap1 = 0 := by omega
  go_region_held3 (fun w' => w'.cell? ⟨gh, 2, none⟩ = some (dgI go)) (first | go_keep) (first | (go_at_call 103; refine Calls.mono HWD.out ?_; rintro e w4 ⟨rfl, hd4, hu4⟩; have q2 : w4.cell? ⟨gh, 2, none⟩ = some (dgI go) := hu4.cell hgh j2))
  have HD4 : Hid (Dig w4 go (ok ++ sha1Of data)) := hd4
  have HU4 : Hid (Upd (fun k => k = go) w3 w4) := ((Upd.refl _ w3).drew).trans hu4
  have HB4 : Hid (Blk w4 g1 cur1 T1) := HB3.out.upd HU4.out hg1.2.1
  clear hd4 hu4 j2 HB3 HBY3 HD3 HWD
  go_wp2_with fail
  have hdr4 : Fresh w4 w4.drew := (Upd.refl _ w4).drew
  have HE4 : Hid (Emp w4.drew (.slice (some ⟨g1, off1, none⟩) 0 cap1)) := .inr ⟨g1, off1, cap1, cur1, T1, rfl, HB4.out.upd hdr4 (fun f => f), HFIT1.out, hcm1⟩
  have HSD := Lib.hid (sumd_any go (.slice (some ⟨g1, off1, none⟩) 0 cap1) (ok ++ sha1Of data) w4.drew (HD4.out.upd hdr4 (fun f => f)) HE4.out (by simp [sha1Of_length]; have := HOK.out; omega))
  clear hdr4
  go_region_held3 (fun w' => w'.cell? ⟨gh, 2, none⟩ = some (dgI go)) (first | go_keep) (first | (go_at_call 101; refine Calls.mono HSD.out ?_; rintro e w5 ⟨r5, rfl, hres5, hsp5⟩; have q3 : w5.cell? ⟨gh, 2, none⟩ = some (dgI go) := hsp5.1.cell (fun e => hg1.1 (Option.some.inj e)) q2))
  obtain ⟨g2, off2, cap2, cur2, T2, rfl, hb2, hfit2, hcap2, hcm2, hby2, hwh2⟩ := hres5
  rw [sha1Of_length] at hcap2
  rw [sha1Of_length]
  have HBY5 := Lib.hid hby2
  have HWH2 := Lib.hid hwh2
  have HU5 : Hid (Upd (fun k => (Value.slice (some ⟨g1, off1, none⟩) 0 cap1).ownBlock = some k) w4 w5) := ((Upd.refl _ w4).drew).trans hsp5.1
  have HK5 : Hid (KeepLow (.slice (some ⟨g1, off1, none⟩) 0 cap1) w4 w5) := (KeepLow.of_upd ((Upd.refl (fun _ => False) w4).drew) (fun _ _ f => f)).trans hsp5.2.1
  clear hb2 hfit2 hby2 hwh2 hsp5 q2 q3 HSD HE4 HD4
  go_wp2_with fail
  go_ret
  have hA : ∀ k, Value.ownBlock (.slice A 0 c) = some k → k ≠ go := fun k e => (HVB.out k e).2.1
  have hu24 : Upd (fun k => k = go) w1 w4 := (HU2.out.trans HU3.out).trans HU4.out
  have hk14 : KeepLow (.slice A 0 c) w1 w4 := KeepLow.of_upd hu24 hA
  have hfin : Upd (fun k => k = go ∨ (Value.slice A 0 c).ownBlock = some k) w w4 := (HU1.out.mono (fun k _ h => .inr h)).trans (hu24.mono (fun k _ h => .inl h))
  refine ⟨g2, off2, cap2, rfl, HBY5.out, hcap2, hcm2, ?_, ?_, ?_, ?_⟩
  · refine hfin.step HU5.out (fun k hk hs => ?_)
    have hk1 : g1 = k := Option.some.inj hs
    subst hk1
    rcases HWH1.out with h | ⟨n, hv⟩
    · omega
    · right; rw [hv]; rfl
  · refine (HK1.out.trans hk14).trans ?_
    rcases HWH1.out with h | ⟨n, hv⟩
    · intro g off n c' cur T hv hb
      refine ⟨cur, hb.upd HU5.out (fun e => ?_), rfl, fun _ _ => rfl⟩
      have hgk : g1 = g := Option.some.inj e
      have hlt : g < w.heap.size := by
        rcases HV.out with h0 | ⟨g0, off0, cap0, cur0, T0, h0, hb0, _⟩
        · rw [h0] at hv; simp at hv
        · rw [hv] at h0; simp at h0; rw [h0.1.1]; exact hb0.lt
      omega
    · rw [hv]; exact HK5.out.at
  · intro A' n' c' hv hc
    have h1 : Fresh w w1 := HSM1.out A' n' c' hv hc
    rcases HWH1.out with h | ⟨n, hv2⟩
    · refine ((h1.mono (fun _ _ f => f.elim)).trans hu24).step HU5.out (fun k hk hs => ?_)
      have hk1 : g1 = k := Option.some.inj hs
      omega
    · rw [hv] at hv2; simp at hv2; omega
  · have hs4 : w.heap.size ≤ w4.heap.size := hfin.size
    rcases HWH2.out with h | ⟨n, hv⟩
    · exact .inl (Nat.le_trans hs4 h)
    · simp only [Value.slice.injEq, Option.some.injEq, Addr.mk.injEq] at hv
      obtain ⟨⟨rfl, rfl, _⟩, _, rfl⟩ := hv
      exact HWH1.out
end Go.Proofs.YtpkipinamlbdoaaGreatDoor

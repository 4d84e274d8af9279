/-
  The walk of newHMAC: HMAC-SHA1 of the message by the key, appended onto an empty slice. Conditions: some bytes, at most eight hundred thousand; a key of at most a hundred thousand.
-/
import Derived.Test.YtpkipinamlbdoaaGreatDoorHA
import Derived.Test.YtpkipinamlbdoaaGreatDoorHB
namespace Go.Proofs.YtpkipinamlbdoaaGreatDoor
open Go Go.RowKit
set_option maxRecDepth 100000 in
set_option maxHeartbeats 4000000 in
theorem hmac_any (A : Option Addr) (nk ck : Nat) (key : List UInt8) (b o n c : Nat) (data : List UInt8) (v : Value) (w : World) (hk : Rd w (.slice A nk ck) key) (hkl : key.length ≤ 100000)
    (hp : Bytes w b o data) (hn : n = data.length) (hnc : n ≤ c) (hcm : c ≤ maxLen) (h0 : 0 < n) (hlen : data.length ≤ 800000) (hv : Emp w v) :
    Calls Tryz.prog 28 #[.slice A nk ck, .slice (some ⟨b, o, none⟩) n c, v] w fun e w' => ∃ g off cap, e = .returned (.slice (some ⟨g, off, none⟩) 20 cap) ∧ Bytes w' g off (macOf key data) ∧ 20 ≤ cap ∧ cap ≤ maxLen ∧
      Upd (fun k => v.ownBlock = some k) w w' ∧ KeepLow v w w' ∧ (∀ A n c, v = .slice A n c → c < 20 → Fresh w w') ∧ (w.heap.size ≤ g ∨ ∃ n, v = .slice (some ⟨g, off, none⟩) n cap) := by
  have HP := Lib.hid hp
  have HN := Lib.hid hn
  have HV := Lib.hid hv
  have HNW := Lib.hid (hnew_any A nk ck key w hk hkl)
  have hbl : b < w.heap.size := World.block_lt_of_cell? _ _ (hp 0 (by omega))
  have hvl : ∀ k, v.ownBlock = some k → k < w.heap.size := by
    rcases hv with rfl | ⟨g, off, cap, cur, T, rfl, hb, _⟩
    · intro k e; cases e
    · intro k e; cases e; exact hb.lt
  have HVL := Lib.hid hvl
  have HM : Hid (macOf key data = sha1Of ((padKey key).map (· ^^^ 0x5c) ++ sha1Of ((padKey key).map (· ^^^ 0x36) ++ data))) := rfl
  have hpk := padKey_length key
  clear hk hp hn hv hvl
  go_enter Tryz.func28, Tryz.ntmps28
  go_wp2_with fail
  refine Calls.mono HNW.out ?_
  rintro e w1 ⟨gh, go, gi, gop, od, rfl, h0', h2, h3, h4, hdi, hdo, hop, ⟨q1, q2, q3, q4⟩, ⟨n1, n2, n3, n4, n5, n6⟩, hu⟩
  have HU1 := Lib.hid hu
  have HDO1 := Lib.hid hdo
  have HOP1 := Lib.hid hop
  have HW := Lib.hid (hwrite_any gh gi b o n c _ data w1 h3 hdi (HP.out.upd hu (fun f => f)) HN.out hnc hcm (by omega) h0 (by simp; omega))
  have H0 := Lib.hid h0'
  have H2 := Lib.hid h2
  have H3 := Lib.hid h3
  have H4 := Lib.hid h4
  clear hu hdo hop hdi h0' h2 h3 h4 HNW
  go_wp2_with fail
  refine Calls.mono HW.out ?_
  rintro e w2 ⟨rfl, hd2, hu2⟩
  have HU2 : Hid (Fresh w w2) := HU1.out.newer hu2 (fun k e => by omega)
  have HS := Lib.hid (hsum_any gh go gi gop ((padKey key).map (· ^^^ 0x5c)) v _ od w2 (hu2.cell n4 H0.out) (hu2.cell n4 H2.out) (hu2.cell n4 H3.out) (hu2.cell n4 H4.out) hd2 (HDO1.out.upd hu2 (fun e => n1 e.symm)) (HOP1.out.upd hu2 n5) (by simp; omega)
    (HV.out.upd HU2.out (fun _ _ f => f)) (by simp; omega) n1 n2 n3 (fun k e => by have := HVL.out k e; omega))
  clear hd2 hu2 HW H0 H2 H3 H4 HOP1 HDO1
  go_wp2_with fail
  refine Calls.mono HS.out ?_
  rintro e w3 ⟨g, off, cap, rfl, hby, hc20, hcm3, hu3, hk3, hsm3, hwh3⟩
  have HSM3 := Lib.hid hsm3
  have HWH3 := Lib.hid hwh3
  have HBY := Lib.hid hby
  have HU3 := Lib.hid hu3
  have HK3 : Hid (KeepLow v w2 w3) := hk3
  clear hby hu3 hk3 hsm3 hwh3 HS
  go_wp2
  go_ret
  refine ⟨g, off, cap, rfl, by rw [HM.out]; exact HBY.out, hc20, hcm3, ?_, ?_, ?_, ?_⟩
  · refine (HU2.out.mono (fun _ _ f => f.elim)).step HU3.out (fun k hk hs => ?_)
    rcases hs with rfl | hs
    · omega
    · exact hs
  · exact (KeepLow.of_upd HU2.out (fun _ _ f => f)).trans HK3.out
  · intro A' n' c' hv hc
    exact HU2.out.newer (HSM3.out A' n' c' hv hc) (fun k e => by omega)
  · rcases HWH3.out with h | h
    · exact .inl (Nat.le_trans HU2.out.size h)
    · exact .inr h
end Go.Proofs.YtpkipinamlbdoaaGreatDoor

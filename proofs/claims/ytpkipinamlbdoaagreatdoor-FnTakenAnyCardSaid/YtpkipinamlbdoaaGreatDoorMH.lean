/-
  The walk of the library's FingerprintAttr.Check where there is a fingerprint of four bytes. Conditions: the message is decoded; at most 65000 bytes.
-/
import Derived.Test.YtpkipinamlbdoaaGreatDoorMG
import Derived.Test.YtpkipinamlbdoaaGreatDoorWE
namespace Go.Proofs.YtpkipinamlbdoaaGreatDoor
open Go Go.RowKit
set_option maxRecDepth 100000 in
set_option maxHeartbeats 8000000 in
theorem fpcheck_any (gm gr n c k base : Nat) (l : List UInt8) (S : Value) (xs : List Value) (ats : List (Nat × List UInt8)) (x0 x1 x2 x3 : UInt8) (errV : Value) (w : World)
    (h15 : w.cell? ⟨gm, 15, none⟩ = some S) (h16 : w.cell? ⟨gm, 16, none⟩ = some (.slice (some ⟨gr, 0, none⟩) n c)) (hown : w.ownsRow base 72 3 S ats.length xs) (hrow : IRow gr 20 xs ats)
    (hby : Bytes w gr 0 l) (hn : n = l.length) (hnc : n ≤ c) (hcm : c ≤ maxLen) (hlen : l.length ≤ 65000) (h24 : 24 ≤ l.length)
    (hk : k < ats.length) (hT : compat (ats[k]).1 = 32808) (hfirst : ∀ i (h : i < ats.length), i < k → compat (ats[i]).1 ≠ 32808) (hv4 : (ats[k]).2 = [x0, x1, x2, x3]) (hval : (l.drop (20 + reach (ats.take k) + 4)).take 4 = (ats[k]).2)
    (hra : 20 + reach ats ≤ l.length) (herr : w.cell? ⟨2, 0, none⟩ = some errV) :
    Calls Tryz.prog 17 #[.agg #[], .pointer (some ⟨gm, 0, none⟩)] w fun e w' => e = .returned (sameW (be32 x0 x1 x2 x3) (fpOf (l.take (n - 8))) errV) ∧ Fresh w w' := by
  have hla : ats.length ≤ 100000 := by
    have h1 := reach_len ats
    omega
  have hf0 : Fresh w (w.alloc (.cells #[] 51)) := (Upd.refl _ w).alloc _
  have HF0 : Hid (Fresh w (w.alloc (.cells #[] 51))) := hf0
  have hget := mget_any gm gr 20 base 32808 k _ xs ats (w.alloc (.cells #[] 51)) (hf0.cell (fun f => f) h15) hrow (owns_upd hown hf0 (fun _ _ f => f) (Nat.le_refl _)) hk hT hfirst hla (by omega)
  rw [show ((32808 : Nat) : Int) = 32808 from rfl] at hget
  have HGET := Lib.hid hget
  have H16 := Lib.hid h16
  have HERR := Lib.hid herr
  have hl4 : (ats[k]).2.length = 4 := by rw [hv4]; rfl
  have HBV : Hid (Bytes w gr (20 + reach (ats.take k) + 4) [x0, x1, x2, x3]) := by
    have h1 := (hby.drop (20 + reach (ats.take k) + 4)).take 4
    rw [hval, hv4, Nat.zero_add] at h1
    exact h1
  have HBT : Hid (Bytes w gr 0 (l.take (n - 8))) := hby.take _
  have HN := Lib.hid hn
  have hn1 : n ≤ 65000 := by omega
  have hn2 : 24 ≤ n := by omega
  clear hf0 hget h15 h16 hown hrow hby hT hfirst hv4 hval hra herr hn
  go_enter Tryz.func17, Tryz.ntmps17
  go_wp2_with fail
  refine Calls.mono HGET.out ?_
  rw [hl4]
  rintro e w1 ⟨A1, c1, rfl, hA1, hlc1, hcm1, hu1⟩
  have HU1 : Hid (Fresh w w1) := HF0.out.fresh hu1
  have hA1' := hA1 (by omega)
  subst hA1'
  have q16 : w1.cell? ⟨gm, 16, none⟩ = some (.slice (some ⟨gr, 0, none⟩) n c) := HU1.out.cell (fun f => f) H16.out
  clear hu1 hA1 HGET hl4 HF0
  have hld := load77
  go_wp2_with (first | (go_at_call 30; refine (checkSize_any _ _).mono ?_; rintro e w9 ⟨rfl, rfl⟩))
  have hb1 := HBV.out.upd HU1.out (fun f => f)
  have HU32 := Lib.hid (u32_any x0 x1 x2 x3 gr (20 + reach (ats.take k) + 4) 4 c1 w1 (Nat.le_refl _) (hb1 0 (by simp)) (hb1 1 (by simp)) (hb1 2 (by simp)) (hb1 3 (by simp)))
  clear hb1
  refine Calls.mono HU32.out ?_
  rintro e w2 ⟨rfl, hu2⟩
  have HU2 : Hid (Fresh w w2) := HU1.out.fresh hu2
  have p16 : w2.cell? ⟨gm, 16, none⟩ = some (.slice (some ⟨gr, 0, none⟩) n c) := hu2.cell (fun f => f) q16
  clear hu2 q16 HU32 HU1
  obtain ⟨d, hd⟩ : ∃ d, d = n - 8 := ⟨_, rfl⟩
  have HDD := Lib.hid hd
  have hdi : (n : Int) - 8 = (d : Int) := by omega
  have hdc : (d : Int) ≤ (c : Int) := by omega
  have hd16 : 16 ≤ d := by omega
  clear hd
  have HFV := Lib.hid (fpv_any (l.take d) gr 0 d c w2 (by rw [List.length_take]; have := HN.out; have := HDD.out; omega) hd16 (by omega) hcm (by rw [HDD.out]; exact HBT.out.upd HU2.out (fun f => f)))
  go_wp2_with (first | (go_at_call 32; refine Calls.mono HFV.out ?_; rintro e w9 ⟨rfl, hu9⟩))
  have HU9 : Hid (Fresh w w9) := HU2.out.fresh hu9
  have HCF := Lib.hid (checkFp_any (be32 x0 x1 x2 x3) (fpOf (l.take d)) errV w9 (HU9.out.cell (fun f => f) HERR.out))
  refine Calls.mono HCF.out ?_
  rintro e w10 ⟨rfl, rfl⟩
  go_wp2_with fail
  go_ret
  exact ⟨by rw [HDD.out]; rfl, HU9.out⟩
end Go.Proofs.YtpkipinamlbdoaaGreatDoor

/-
  The walk of the library's MessageIntegrity.Check where there is an integrity of twenty bytes. Conditions: the message is decoded; at most a hundred thousand bytes.
-/
import Derived.Test.YtpkipinamlbdoaaGreatDoorME
import Derived.Test.YtpkipinamlbdoaaGreatDoorMF
import Derived.Test.YtpkipinamlbdoaaGreatDoorHD
import Derived.Deep.CutRange
import Derived.Deep.DeepCutAuto
namespace Go.Proofs.YtpkipinamlbdoaaGreatDoor
open Go Go.RowKit
/-- A message's bytes with another number at its bytes two and three. -/
def lenSet (n : Nat) (l : List UInt8) : List UInt8 := (l.set 2 (UInt8.ofNat (n / 256))).set 3 (UInt8.ofNat n)
theorem reach_take_succ (ats : List (Nat × List UInt8)) (j : Nat) (h : j < ats.length) : reach (ats.take (j + 1)) = reach (ats.take j) + allOf (ats[j]).2.length := by
  rw [List.take_succ_eq_append_getElem h]
  obtain ⟨ty, x⟩ := ats[j]
  exact reach_snoc _ _ _
theorem reach_append (a b : List (Nat × List UInt8)) : reach (a ++ b) = reach a + reach b := by
  induction a with
  | nil => simp [reach]
  | cons x r ih => obtain ⟨ty, y⟩ := x; simp [reach, ih, Nat.add_assoc]
theorem reach_take_le (ats : List (Nat × List UInt8)) (j : Nat) : reach (ats.take j) ≤ reach ats := by
  have := reach_append (ats.take j) (ats.drop j)
  rw [List.take_append_drop] at this; omega
/-- The bytes of a row whose first cells are l's. -/
theorem Blk.low {w : World} {g : Nat} {cur : Array Value} {T : TypeId} {l : List UInt8} {n : Nat} (hb : Blk w g cur T) (h : cur.toList.take n = bv l) : Bytes w g 0 l := fun i hi => by
  rw [hb.cell, Nat.zero_add]
  have h1 : (cur.toList.take n)[i]? = Option.some (Value.int .u8 (I8 l[i])) := by rw [h]; exact bv_get l i hi
  rw [List.getElem?_take] at h1
  split at h1
  · simpa only [Array.getElem?_toList, Nat.zero_add] using h1
  · cases h1
theorem lenSet_row {cur : Array Value} {n N : Nat} {l : List UInt8} (h : cur.toList.take n = bv l) : ((cur.setIfInBounds 2 (vb (UInt8.ofNat (N / 256)))).setIfInBounds 3 (vb (UInt8.ofNat N))).toList.take n = bv (lenSet N l) := by
  unfold lenSet
  rw [Array.toList_setIfInBounds, Array.toList_setIfInBounds, List.take_set, List.take_set, h]
  simp [bv, vb, List.map_set]
theorem lenSet_length (N : Nat) (l : List UInt8) : (lenSet N l).length = l.length := by simp [lenSet]
theorem lenSet_drop (N k : Nat) (l : List UInt8) (h : 4 ≤ k) : (lenSet N l).drop k = l.drop k := by
  unfold lenSet
  rw [List.drop_set_of_lt (by omega), List.drop_set_of_lt (by omega)]
theorem take_same {a b : Array Value} {n : Nat} (h : ∀ j, j < n → a[j]? = b[j]?) : a.toList.take n = b.toList.take n := by
  apply List.ext_getElem?
  intro j
  rw [List.getElem?_take, List.getElem?_take]
  split
  · simpa using h j (by assumption)
  · rfl
/-- A slice from its end. -/
theorem run_end (T : TypeId) (hT : T = 22) (b n cap : Nat) (_h : n ≤ cap) :
    ∃ o', (o' = n ∨ cap - n = 0) ∧ ∀ w : World, (Instr.slice T (.slice (some ⟨b, 0, none⟩) n cap) (some (.int .i64 (n : Nat))) none none).run Tryz.prog w = .ok (.slice (some ⟨b, o', none⟩) 0 (cap - n)) w := by
  subst hT
  by_cases hne : cap = n
  · exact ⟨0, .inr (by omega), fun w => by simp [go_sem, hne]⟩
  · exact ⟨n, .inl rfl, fun w => by simp [go_sem, hne]⟩
set_option maxRecDepth 100000 in
set_option maxHeartbeats 8000000 in
theorem check_any (gm gr n c N k nk ck base : Nat) (A : Option Addr) (key l : List UInt8) (cur rc : Array Value) (S : Value) (xs : List Value) (ats : List (Nat × List UInt8)) (errV : Value) (w : World)
    (hb : Blk w gm cur 65) (hs : cur.size = 18) (h2 : cur[2]? = some (.int .u32 (N : Nat))) (h15 : cur[15]? = some S) (h16 : cur[16]? = some (.slice (some ⟨gr, 0, none⟩) n c)) (hown : w.ownsRow base 72 3 S ats.length xs) (hrow : IRow gr 20 xs ats)
    (hr : Blk w gr rc 5) (hrs : rc.size = c) (hrt : rc.toList.take n = bv l) (hn : n = l.length) (hnc : n ≤ c) (hcm : c ≤ maxLen) (hlen : l.length ≤ 65000) (hN : N < 65536) (hgm : gm ≠ gr) (hkey : Rd w (.slice A nk ck) key) (hkl : key.length ≤ 100000) (hkb : ∀ q, (Value.slice A nk ck).ownBlock = some q → q ≠ gm ∧ q ≠ gr)
    (hsb : ∀ q, S.ownBlock = some q → q ≠ gm ∧ q ≠ gr) (hk : k < ats.length) (hT : compat (ats[k]).1 = 8) (hfirst : ∀ i (h : i < ats.length), i < k → compat (ats[i]).1 ≠ 8) (hv20 : (ats[k]).2.length = 20) (hreach : 20 + reach (ats.take k) + 24 ≤ l.length) (hval : (l.drop (20 + reach (ats.take k) + 4)).take 20 = (ats[k]).2)
    (hra : 20 + reach ats ≤ l.length) (herr : w.cell? ⟨1, 0, none⟩ = some errV) (hg1 : 1 ≠ gm ∧ 1 ≠ gr) :
    Calls Tryz.prog 16 #[.slice A nk ck, .pointer (some ⟨gm, 0, none⟩)] w fun e w' => e = .returned (same (ats[k]).2 (macOf key ((lenSet (reach (ats.take k) + 24) l).take (20 + reach (ats.take k)))) errV) ∧ Upd (fun q => q = gm ∨ q = gr) w w' := by
  have hla : ats.length ≤ 100000 := by
    have h1 := reach_len ats
    omega
  have HB := Lib.hid hb
  have HS := Lib.hid hs
  have H2 := Lib.hid h2
  have H15 := Lib.hid h15
  have H16 := Lib.hid h16
  have HOWN := Lib.hid hown
  have HROW := Lib.hid hrow
  have HR := Lib.hid hr
  have HRS := Lib.hid hrs
  have HRT := Lib.hid hrt
  have HKEY := Lib.hid hkey
  have HKB := Lib.hid hkb
  have HSB := Lib.hid hsb
  have HF := Lib.hid hfirst
  have HT := Lib.hid hT
  have HV20 := Lib.hid hv20
  have HVAL := Lib.hid hval
  have HERR := Lib.hid herr
  have HREACH := Lib.hid hreach
  have HNL := Lib.hid hn
  obtain ⟨gs, caps, rfl, hgs, hgsl⟩ := hown.form (by omega)
  have hget := mget_any gm gr 20 base 8 k _ xs ats w (by rw [hb.cell]; exact h15) hrow hown hk hT hfirst hla (by omega)
  have HGET := Lib.hid hget
  clear hb hs h2 h15 h16 hown hrow hr hrs hrt hkey hkb hsb hfirst hT hv20 hval herr hreach hget hn
  go_enter Tryz.func16, Tryz.ntmps16
  go_wp2_with fail
  refine Calls.mono HGET.out ?_
  rintro e w1 ⟨A1, c1, rfl, hA1, hlc1, hcm1, hu1⟩
  have HU1 : Hid (Fresh w w1) := hu1
  have hA1' := hA1 (by rw [HV20.out]; omega)
  subst hA1'
  have HLC1 := Lib.hid hlc1
  have HB1 := Lib.hid (HB.out.upd hu1 (fun f => f))
  have c2 : w1.cell? ⟨gm, 2, none⟩ = some (.int .u32 (N : Nat)) := by rw [HB1.out.cell]; exact H2.out
  have c15 : w1.cell? ⟨gm, 15, none⟩ = some (.slice (some ⟨gs, 0, none⟩) ats.length caps) := by rw [HB1.out.cell]; exact H15.out
  clear hu1 hA1 hlc1 HGET
  go_wp2_with fail
  go_loopw [8, 31] (fun sz i wr => ∃ j : Nat, j ≤ k ∧ i = .int .i64 j ∧ sz = .int .i64 (reach (ats.take j) : Nat) ∧ Fresh w1 wr) (fun _ i _ => k - (intOf i).toNat + 1)
  case atStart => exact ⟨0, by omega, rfl, by simp [reach], Upd.refl _ _⟩
  case round =>
    obtain ⟨j, hj, rfl, rfl, hu⟩ := hrel
    have HU := Lib.hid hu
    obtain ⟨A2, c2', e0, e1, e2, _, _, _⟩ := HROW.out.cell j (by omega)
    have hf : ∀ m v, xs[m]? = some v → wr.cell? ⟨gs, m, none⟩ = some v := fun m v h => by
      have := HOWN.out.cells (g := gs) rfl m v h
      rw [Addr.add_lit] at this; simp at this
      exact hu.cell (fun f => f) (HU1.out.cell (fun f => f) this)
    have d0 := hf _ _ e0
    have d1 := hf _ _ e1
    have d2 := hf _ _ e2
    clear hu hf e0 e1 e2 c2 c15
    have hjl : (j : Int) < (ats.length : Int) := by omega
    have hstep := reach_take_succ ats j (by omega)
    have htl := reach_take_le ats (j + 1)
    have hag := allOf_ge (ats[j]).2.length
    have hljb : (ats[j]).2.length ≤ 65000 := by omega
    have hrjb : reach (ats.take j) ≤ 65000 := by omega
    have HSTEP := Lib.hid hstep
    obtain ⟨pj, hpj⟩ : ∃ p, p = ((ats[j]).2.length + 3) / 4 * 4 := ⟨_, rfl⟩
    have hall : allOf (ats[j]).2.length = 4 + pj := by rw [hpj]; rfl
    have HPJ := Lib.hid hpj
    have HALL := Lib.hid hall
    have hpjb : pj ≤ 65536 := by omega
    have HPAD : Hid (∀ wx, Calls Tryz.prog 26 #[.int .i64 (ats[j]).2.length] wx fun e w' => e = .returned (.int .i64 (pj : Nat)) ∧ wx = w') := by
      intro wx; rw [hpj]; exact pad4_any _ wx (by omega)
    clear hstep htl hag hpj hall
    by_cases heq : j = k
    · subst heq
      have ht : ((compat (ats[j]).1 : Int) == 8) = true := by rw [beq_iff_eq, HT.out]; rfl
      have HTL : Hid (reach (ats.take j) + 4 + pj = reach (ats.take j) + 24) := by
        have h1 := HALL.out; rw [HV20.out] at h1; have : allOf 20 = 24 := rfl; show _ = _; omega
      obtain ⟨z, hz⟩ : ∃ z, z = reach (ats.take j) + 24 := ⟨_, rfl⟩
      have hzi : (reach (ats.take j) : Int) + 4 + (pj : Int) = (z : Int) := by have := HTL.out; omega
      have HZ := Lib.hid hz
      have hz1 : z ≤ 65024 := by omega
      have HBr := Lib.hid (HB1.out.upd HU.out (fun f => f))
      have hgmr : gm < wr.heap.size := HBr.out.lt
      have b2 : ∀ ob, (wr.alloc ob).cell? ⟨gm, 2, none⟩ = some (.int .u32 (N : Nat)) := fun ob => by
        have hh : Blk (wr.alloc ob) gm cur 65 := HBr.out.alloc ob
        rw [hh.cell]; exact H2.out
      have f2 : ∀ ob, (wr.alloc ob).frozen? ⟨gm, 2, none⟩ = false := fun ob => by
        have hh : Blk (wr.alloc ob) gm cur 65 := HBr.out.alloc ob
        exact hh.free 2
      clear hz
      go_upto_region 14 with (first | (go_at_call 26; refine Calls.mono (HPAD.out _) ?_; rintro e w9 ⟨rfl, rfl⟩))
      have hWA : ∀ ob, Blk ((wr.setCell ⟨gm, 2, none⟩ (.int .u32 z)).alloc ob) gm (cur.setIfInBounds 2 (.int .u32 z)) 65 ∧ Blk ((wr.setCell ⟨gm, 2, none⟩ (.int .u32 z)).alloc ob) gr rc 5 ∧ Upd (fun q => q = gm) w ((wr.setCell ⟨gm, 2, none⟩ (.int .u32 z)).alloc ob) := fun ob => by
        have h1 : Upd (fun q => q = gm) wr (wr.setCell ⟨gm, 2, none⟩ (.int .u32 z)) := Upd.setCell (S := fun q => q = gm) (Upd.refl _ wr) (p := ⟨gm, 2, none⟩) (fun _ => rfl) _
        have h2 : Blk wr gr rc 5 := (HR.out.upd HU1.out (fun f => f)).upd HU.out (fun f => f)
        refine ⟨(HBr.out.set 2 _).alloc _, (h2.upd h1 (fun e => hgm e.symm)).alloc _, ((((HU1.out.fresh HU.out).mono (fun _ _ f => f.elim)).trans h1).alloc _)⟩
      have HWA := Lib.hid (hWA (.cells #[.int .u16 (compat (ats[j]).1 : Nat), .int .u16 ((ats[j]).2.length : Nat), .slice A2 (ats[j]).2.length c2'] 72))
      clear hWA b2 f2 hzi d0 d1 d2
      generalize (wr.setCell ⟨gm, 2, none⟩ (.int .u32 z)).alloc (.cells #[.int .u16 (compat (ats[j]).1 : Nat), .int .u16 ((ats[j]).2.length : Nat), .slice A2 (ats[j]).2.length c2'] 72) = wA at *
      have q16 : wA.cell? ⟨gm, 16, none⟩ = some (.slice (some ⟨gr, 0, none⟩) n c) := by rw [HWA.out.1.cell, Array.getElem?_setIfInBounds_ne (by omega)]; exact H16.out
      have q2 : wA.cell? ⟨gm, 2, none⟩ = some (.int .u32 (z : Nat)) := by rw [HWA.out.1.cell, Array.getElem?_setIfInBounds_self]; simp [HS.out]
      have hrch := HREACH.out
      have hnl := HNL.out
      have HWL := Lib.hid (wlen_any gm gr n c z rc 5 wA q16 q2 (by omega) HWA.out.2.1 (by omega) hnc hcm (by rw [HRS.out]; omega) hgm)
      go_wp2_with fail
      refine Calls.mono HWL.out ?_
      rintro e wB ⟨rfl, hbB, huB⟩
      have HBB := Lib.hid hbB
      have HUB : Hid (Upd (fun q => q = gr) wA wB) := huB
      have p16 : wB.cell? ⟨gm, 16, none⟩ = some (.slice (some ⟨gr, 0, none⟩) n c) := huB.cell hgm q16
      have p2 : wB.cell? ⟨gm, 2, none⟩ = some (.int .u32 (z : Nat)) := huB.cell hgm q2
      clear hbB huB q16 q2 HWL
      obtain ⟨d, hd⟩ : ∃ d, d = 20 + reach (ats.take j) := ⟨_, rfl⟩
      have HDD := Lib.hid hd
      have hzd : (20 : Int) + (z : Int) - 24 = (d : Int) := by have := HZ.out; omega
      have hz24 : 24 ≤ z := by have := HZ.out; omega
      have hdn : d + 24 ≤ n := by omega
      have hdc : (d : Int) ≤ (c : Int) := by omega
      have hcm9 : c ≤ 9223372036854775807 := by unfold maxLen at hcm; omega
      clear hd hrch hnl
      go_wp2_with fail
      have HLB := Lib.hid (HBB.out.low (lenSet_row (N := z) HRT.out))
      have hol : gr < wB.heap.size := HBB.out.lt
      have HDR : Hid (Fresh wB wB.drew) := Lib.hid ((Upd.refl (fun _ => False) wB).drew)
      have HBD := Lib.hid (HBB.out.upd HDR.out (fun f => f))
      have hsz : (((rc.setIfInBounds 2 (vb (UInt8.ofNat (z / 256)))).setIfInBounds 3 (vb (UInt8.ofNat z)))).size = c := by simp [HRS.out]
      have hKB : Hid (Rd wB.drew (.slice A nk ck) key) := by
        have k1 := HKEY.out.upd HWA.out.2.2 (fun q hq => (HKB.out q hq).1)
        exact (k1.upd HUB.out (fun q hq => (HKB.out q hq).2)).upd HDR.out (fun _ _ f => f)
      obtain ⟨AE, hAE⟩ : ∃ A, A = (if c = n then some (⟨gr, 0, none⟩ : Addr) else some ⟨gr, n, none⟩) := ⟨_, rfl⟩
      have HAE := Lib.hid hAE
      have hEm : Hid (Emp wB.drew (.slice AE 0 (c - n)) ∧ (Value.slice AE 0 (c - n)).ownBlock = some gr ∧ (AE = some ⟨gr, n, none⟩ ∨ c - n = 0 )) := by
        show _ ∧ _
        by_cases e : c = n
        · rw [if_pos e] at hAE; subst hAE
          exact ⟨.inr ⟨gr, 0, c - n, _, 5, rfl, HBD.out, by rw [hsz]; omega, by omega⟩, rfl, .inr (by omega)⟩
        · rw [if_neg e] at hAE; subst hAE
          exact ⟨.inr ⟨gr, n, c - n, _, 5, rfl, HBD.out, by rw [hsz]; omega, by omega⟩, rfl, .inl rfl⟩
      have HHM := Lib.hid (hmac_any A nk ck key gr 0 d c ((lenSet z l).take d) (.slice AE 0 (c - n)) wB.drew hKB.out hkl ((HLB.out.upd HDR.out (fun f => f)).take d) (by rw [List.length_take, lenSet_length]; have := HNL.out; omega) (by omega) hcm (by omega) (by rw [List.length_take, lenSet_length]; omega) hEm.out.1)
      clear hAE
      refine wp_region_noPanic ?_
      go_region_held3 (fun w' => w'.cell? ⟨gm, 16, none⟩ = some (.slice (some ⟨gr, 0, none⟩) n c)) (first | go_keep) (first | (go_at_call 28; rw [← HAE.out]; refine Calls.mono HHM.out ?_; rintro e wC ⟨g, off, cap, rfl, hbC, hcap, hcapm, huC, hkC, hfC, hwC⟩; have p16C : wC.cell? ⟨gm, 16, none⟩ = some (.slice (some ⟨gr, 0, none⟩) n c) := huC.cell (fun e => hgm (Option.some.inj (hEm.out.2.1.symm.trans e)).symm) (HDR.out.cell (fun f => f) p16)))
      refine NoPanic.normal ?_
      have hgo : ¬ ((Value.slice AE 0 (c - n)).ownBlock = some gm) := fun e => hgm (Option.some.inj (hEm.out.2.1.symm.trans e)).symm
      have HGC := Lib.hid ((((HWA.out.1.upd HUB.out hgm).upd HDR.out (fun f => f)).upd huC hgo))
      have hUC : Hid (Upd (fun q => q = gm ∨ q = gr) w wC) := by
        have k1 : Upd (fun q => q = gm ∨ q = gr) w wA := HWA.out.2.2.mono (fun _ _ e => .inl e)
        have k2 : Upd (fun q => q = gm ∨ q = gr) wA wB := HUB.out.mono (fun _ _ e => .inr e)
        have k3 : Upd (fun q => q = gm ∨ q = gr) wB wB.drew := HDR.out.mono (fun _ _ f => f.elim)
        have k4 : Upd (fun q => q = gm ∨ q = gr) wB.drew wC := huC.mono (fun _ _ e => .inr (Option.some.inj (hEm.out.2.1.symm.trans e)).symm)
        exact ((k1.trans k2).trans k3).trans k4
      have hRC : Hid (∃ rc' : Array Value, Blk wC gr rc' 5 ∧ rc'.size = c ∧ rc'.toList.take n = bv (lenSet z l)) := by
        rcases hEm.out.2.2 with e | e
        · obtain ⟨r1, h1, h2, h3⟩ := hkC gr n 0 (c - n) _ 5 (by rw [e]) HBD.out
          exact ⟨r1, h1, h2.trans hsz, (take_same h3).trans (lenSet_row HRT.out)⟩
        · exact ⟨_, HBD.out.upd (hfC _ _ _ rfl (by omega)) (fun f => f), hsz, lenSet_row HRT.out⟩
      obtain ⟨rcC, hrC, hsC, htC⟩ := hRC.out
      have HRC := Lib.hid hrC
      have HSC := Lib.hid hsC
      have HTC := Lib.hid htC
      have HBC := Lib.hid hbC
      have f2C : wC.frozen? ⟨gm, 2, none⟩ = false := HGC.out.free 2
      have p2C : wC.cell? ⟨gm, 2, none⟩ = some (.int .u32 (z : Nat)) := by rw [HGC.out.cell, Array.getElem?_setIfInBounds_self]; simp [HS.out]
      have hgr9 : Hid (g ≠ gm ∧ (g = gr → 4 ≤ off)) := by
        show _ ∧ _
        have hzm : gm < wB.drew.heap.size := (((HWA.out.1.upd HUB.out hgm).upd HDR.out (fun f => f))).lt
        have hzr : gr < wB.drew.heap.size := HBD.out.lt
        rcases hwC with h | ⟨n', hv⟩
        · exact ⟨by omega, fun e => by omega⟩
        · have e1 := hEm.out.2.1
          have hg : g = gr := by rw [hv] at e1; exact Option.some.inj e1
          refine ⟨fun e => hgm (e.symm.trans hg), fun _ => ?_⟩
          rcases hEm.out.2.2 with e | e
          · rw [e] at hv; simp only [Value.slice.injEq, Option.some.injEq, Addr.mk.injEq] at hv; omega
          · simp only [Value.slice.injEq] at hv; omega
      clear hrC hsC htC hbC huC hkC hfC hwC hgo hEm HHM HAE HKB hKB HLB hRC HDR HBD HUB HWA hsz
      go_wp2_with fail
      have huD : Upd (fun q => q = gm) wC (wC.setCell ⟨gm, 2, none⟩ (.int .u32 N)) := Upd.setCell (S := fun q => q = gm) (Upd.refl _ wC) (p := ⟨gm, 2, none⟩) (fun _ => rfl) _
      have hgD := HGC.out.set 2 (.int .u32 N)
      have HUD : Hid (Upd (fun q => q = gm) wC (wC.setCell ⟨gm, 2, none⟩ (.int .u32 N)) ∧ Blk (wC.setCell ⟨gm, 2, none⟩ (.int .u32 N)) gm ((cur.setIfInBounds 2 (.int .u32 z)).setIfInBounds 2 (.int .u32 N)) 65) := ⟨huD, hgD⟩
      clear huD hgD f2C p2C
      generalize wC.setCell ⟨gm, 2, none⟩ (.int .u32 N) = wD at *
      have q16 : wD.cell? ⟨gm, 16, none⟩ = some (.slice (some ⟨gr, 0, none⟩) n c) := by
        rw [HUD.out.2.cell, Array.getElem?_setIfInBounds_ne (by omega), Array.getElem?_setIfInBounds_ne (by omega)]; exact H16.out
      have q2 : wD.cell? ⟨gm, 2, none⟩ = some (.int .u32 (N : Nat)) := by rw [HUD.out.2.cell, Array.getElem?_setIfInBounds_self]; simp [HS.out]
      have HRD := Lib.hid (HRC.out.upd HUD.out.1 (fun e => hgm e.symm))
      have HWL2 := Lib.hid (wlen_any gm gr n c N rcC 5 wD q16 q2 hN HRD.out (by omega) hnc hcm (by rw [HSC.out]; omega) hgm)
      refine Calls.mono HWL2.out ?_
      rintro e wE ⟨rfl, hbE, huE⟩
      have hbm : Hid (Bytes wE g off (macOf key ((lenSet z l).take d))) := by
        have h1 := HBC.out.upd HUD.out.1 hgr9.out.1
        by_cases e : g = gr
        · subst e
          intro i hi
          have h2 := h1 i hi
          rw [HRD.out.cell] at h2
          rw [hbE.cell, Array.getElem?_setIfInBounds_ne (by have := hgr9.out.2 rfl; omega), Array.getElem?_setIfInBounds_ne (by have := hgr9.out.2 rfl; omega)]
          exact h2
        · exact h1.upd huE e
      have hbv : Hid (Bytes wE gr (20 + reach (ats.take j) + 4) (ats[j]).2) := by
        have h1 := ((hbE.low (lenSet_row (N := N) HTC.out)).drop (20 + reach (ats.take j) + 4)).take 20
        rw [lenSet_drop _ _ _ (by omega), lenSet_drop _ _ _ (by omega), HVAL.out, Nat.zero_add] at h1
        exact h1
      have hUE : Hid (Upd (fun q => q = gm ∨ q = gr) w wE) := (hUC.out.trans (HUD.out.1.mono (fun _ _ e => .inl e))).trans (huE.mono (fun _ _ e => .inr e))
      have hER : wE.cell? ⟨1, 0, none⟩ = some errV := hUE.out.cell (fun e => e.elim hg1.1 hg1.2) HERR.out
      have HCK := Lib.hid (checkHMAC_any (ats[j]).2 (macOf key ((lenSet z l).take d)) gr (20 + reach (ats.take j) + 4) (ats[j]).2.length c1 g off 20 cap errV wE rfl (by rw [macOf_length]) HV20.out (by omega) hbv.out hbm.out hER)
      clear hbE huE q16 q2 hER HWL2
      go_wp2_with fail
      refine Calls.mono HCK.out ?_
      rintro e wF ⟨rfl, kk, rfl⟩
      go_wp2_with fail
      go_ret
      refine ⟨?_, hUE.out.drewN _⟩
      rw [HZ.out, HDD.out]
      rfl

    · have ht : ((compat (ats[j]).1 : Int) == 8) = false := by
        rw [beq_eq_false_iff_ne]; intro e; exact HF.out j (by omega) (by omega) (by omega)
      go_wp2_with (first | (go_at_call 26; refine Calls.mono (HPAD.out _) ?_; rintro e w9 ⟨rfl, rfl⟩))
      go_roundw
      case rel => exact ⟨j + 1, by omega, by go_num, by rw [HSTEP.out, HALL.out]; exact congrArg (Value.int .i64) (by omega), HU.out.alloc _⟩
      case measure => simp [intOf]; omega
end Go.Proofs.YtpkipinamlbdoaaGreatDoor

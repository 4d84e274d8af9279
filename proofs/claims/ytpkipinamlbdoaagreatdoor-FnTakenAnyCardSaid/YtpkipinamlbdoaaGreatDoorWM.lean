/-
  The walk of the reference's HMAC-SHA1: it returns macOf, in memory of its own. Condition: at most a hundred thousand bytes each.
-/
import Derived.Test.YtpkipinamlbdoaaGreatDoorWS
import Derived.Test.YtpkipinamlbdoaaGreatDoorP
import Derived.Deep.CutRange
import Derived.Deep.DeepCutAuto
import Derived.WalkSpells
namespace Go.Proofs.YtpkipinamlbdoaaGreatDoor
open Go Go.RowKit
attribute [local go_sem] I32_cvt I8_cvt I32_add I32_and I32_or I32_xor I8_xor I32_notm
theorem heap_alloc_new' (w : World) (g : Nat) (cs : Array Value) (h : g = w.heap.size) : (w.alloc (.cells cs 5)).heap[g]? = some (.cells cs 5 (0, 0)) := by
  subst h; exact heap_alloc_new w _
theorem Rd.own_lt {w : World} {v : Value} {l : List UInt8} (h : Rd w v l) : ∀ k, v.ownBlock = some k → k < w.heap.size := by
  intro k hk
  cases h with
  | nil => cases hk
  | at_ b o n c l hn hc hm hl hb => cases hk; exact hb
theorem xor36 (x : UInt8) : bits .xor .u8 (I8 x) 54 = I8 (x ^^^ 0x36) := by
  rw [← I8_xor]; congr 1; simp [I8_def]
theorem xor5c (x : UInt8) : bits .xor .u8 (I8 x) 92 = I8 (x ^^^ 0x5c) := by
  rw [← I8_xor]; congr 1; simp [I8_def]
theorem Own.of_blk' {w : World} {g base cap : Nat} {cur : Array Value} (hb : Blk w g cur 5) (hg : base ≤ g) (l : List UInt8) (n : Nat) (hn : n = l.length) (hl : l.length ≤ cap) (hc : cap ≤ maxLen) (hs : cur.size = cap) (ht : cur.toList.take l.length = bv l) :
    Own w base (.slice (some ⟨g, 0, none⟩) n cap) l := by
  subst hn; exact Own.of_blk hb hg l hl hc hs ht
theorem madeZ : madeCells #[Value.int .u8 0] 64 = Zb 64 := by kernel_rfl
theorem run_make64 (w : World) : (Instr.makeSlice 22 (.int .i64 64) (.int .i64 64)).run Tryz.prog w = .ok (.slice (some ⟨w.heap.size, 0, none⟩) 64 64) (w.alloc (.cells (Zb 64) 5)) := by kernel_rfl
set_option maxRecDepth 100000 in
set_option maxHeartbeats 8000000 in
theorem mac_any (A B : Option Addr) (n c m d : Nat) (key l : List UInt8) (w : World) (hk : Rd w (.slice A n c) key) (hd : Rd w (.slice B m d) l) (hkl : key.length ≤ 100000) (hlen : l.length ≤ 100000) :
    Calls Tryz.prog 21 #[.slice A n c, .slice B m d] w fun e w' => ∃ r, e = .returned r ∧ Own w' w.heap.size r (macOf key l) ∧ Fresh w w' := by
  have HK : Hid (Rd w (.slice A n c) key) := hk
  have HD : Hid (Rd w (.slice B m d) l) := hd
  obtain rfl := hk.len
  obtain rfl := hd.len
  clear hk hd
  go_enter Tryz.func21, Tryz.ntmps21
  go_upto_if 10 with fail
  go_cut [0] (fun s0 wx => ∃ A c, s0 = .slice A (macKey key).length c ∧ Rd wx (.slice A (macKey key).length c) (macKey key) ∧ Fresh w wx)
  case first =>
    by_cases h64 : 64 < key.length
    · go_wp2_with fail
      refine (sha1_any A key.length c key w HK.out (by omega)).mono ?_
      rintro e w1 ⟨r1, rfl, hown1, hu1⟩
      have hmk : macKey key = sha1Of key := by unfold macKey; rw [if_pos (by omega)]
      obtain ⟨g1, c1, rfl, _, _, _, _, _⟩ := hown1.form (by rw [sha1Of_length]; omega)
      go_wp2_with fail
      go_meet
      rw [hmk]
      exact ⟨_, _, rfl, hown1.rd, hu1⟩
    · have hmk : macKey key = key := by unfold macKey; rw [if_neg (by omega)]
      go_wp2_with fail
      go_meet
      rw [hmk]
      exact ⟨_, _, rfl, HK.out, Upd.refl _ _⟩
  case rest =>
  obtain ⟨A1, c1, rfl, hrk, hu⟩ := hcut
  have HK1 : Hid (Rd wc (.slice A1 (macKey key).length c1) (macKey key)) := hrk
  have HU1 : Hid (Fresh w wc) := hu
  have HD1 : Hid (Rd wc (.slice B l.length d) l) := HD.out.upd hu (fun _ _ f => f)
  clear hrk hu HK HD
  go_upto_region 3 with fail
  go_cut [5, 6] (fun s5 s6 wx => ∃ g h, s5 = .slice (some ⟨g, 0, none⟩) 64 64 ∧ s6 = .slice (some ⟨h, 0, none⟩) 64 64 ∧ g ≠ h ∧ wc.heap.size ≤ g ∧ wc.heap.size ≤ h ∧ Blk wx g (Zb 64) 5 ∧ Blk wx h (Zb 64) 5 ∧ Fresh wc wx)
  case first =>
    have hmake := run_make64
    go_region
    all_goals go_wp2_with fail
    all_goals go_meet
    · exact ⟨_, _, rfl, rfl, by omega, by omega, by omega, (Blk.new _ _ _).alloc _, heap_alloc_new' _ _ _ (by simp), (((Upd.refl (fun _ => False) wc).alloc _).alloc _).drew⟩
    · exact ⟨_, _, rfl, rfl, by omega, by omega, by omega, heap_alloc_new' _ _ _ (by simp), (Blk.new _ _ _).alloc _, (((Upd.refl (fun _ => False) wc).alloc _).alloc _).drew⟩
  case rest =>
  obtain ⟨wo, rfl⟩ : ∃ wo : World, wo = wc := ⟨_, rfl⟩
  obtain ⟨g, h, rfl, rfl, hgh, hg, hh, hbg, hbh, hu⟩ := hcut
  have HG : Hid (Blk wo g (Zb 64) 5) := hbg
  have HH : Hid (Blk wo h (Zb 64) 5) := hbh
  have HU : Hid (Fresh w wo) := HU1.out.fresh hu
  have HK2 : Hid (Rd wo (.slice A1 (macKey key).length c1) (macKey key)) := HK1.out.upd hu (fun _ _ f => f)
  have HD2 : Hid (Rd wo (.slice B l.length d) l) := HD1.out.upd hu (fun _ _ f => f)
  have hgo : w.heap.size ≤ g := by have := HU1.out.size; omega
  have hho : w.heap.size ≤ h := by have := HU1.out.size; omega
  have hdb := HD1.out.own_lt
  have hkb := HK1.out.own_lt
  have HKB : Hid (∀ k, (Value.slice A1 (macKey key).length c1).ownBlock = some k → k < wc.heap.size) := hkb
  have HDB : Hid (∀ k, (Value.slice B l.length d).ownBlock = some k → k < wc.heap.size) := hdb
  clear hbg hbh hu HK1 HD1 hdb hkb HU1
  have hmkl := macKey_length key
  have HPK : Hid (padKey key = macKey key ++ List.replicate (64 - (macKey key).length) 0) := rfl
  have hpl := padKey_length key
  have HMAC : Hid (macOf key l = sha1Of ((padKey key).map (· ^^^ 0x5c) ++ sha1Of ((padKey key).map (· ^^^ 0x36) ++ l))) := rfl
  generalize macKey key = mk at *
  generalize padKey key = pk at *
  go_wp2_with (first | (refine wpList_copyB rfl (.tmp 15) (.tmp 16) rfl g 0 64 64 _ (Zb 64) mk rfl rfl HK2.out HG.out (by rw [Zb_size]; omega) hmkl ?_))
  intro w1 hb1 hu1
  have HG1 : Hid (Blk w1 g (bv pk).toArray 5) := by show _ = _; rw [HPK.out, ← splice_pad mk hmkl]; exact hb1
  have HH1 : Hid (Blk w1 h (Zb 64) 5) := HH.out.upd hu1 (by omega)
  have HK3 : Hid (Rd w1 (.slice A1 mk.length c1) mk) := HK2.out.upd hu1 (fun k hk e => by have := HKB.out k hk; omega)
  have HD3 : Hid (Rd w1 (.slice B l.length d) l) := HD2.out.upd hu1 (fun k hk e => by have := HDB.out k hk; omega)
  have HU1 : Hid (Fresh w w1) := HU.out.newer hu1 (fun k e => by omega)
  clear hb1 hu1 HG HH HK2 HD2 HU
  go_wp2_with (first | (refine wpList_copyB rfl (.tmp 18) (.tmp 19) rfl h 0 64 64 _ (Zb 64) mk rfl rfl HK3.out HH1.out (by rw [Zb_size]; omega) hmkl ?_))
  intro w2 hb1 hu1
  have HH2 : Hid (Blk w2 h (bv pk).toArray 5) := by show _ = _; rw [HPK.out, ← splice_pad mk hmkl]; exact hb1
  have HG2 : Hid (Blk w2 g (bv pk).toArray 5) := HG1.out.upd hu1 (by omega)
  have HD4 : Hid (Rd w2 (.slice B l.length d) l) := HD3.out.upd hu1 (fun k hk e => by have := HDB.out k hk; omega)
  have HU2 : Hid (Fresh w w2) := HU1.out.newer hu1 (fun k e => by omega)
  clear hb1 hu1 HG1 HH1 HK3 HD3 HU1
  go_wp2
  go_loopw [7, 23] (fun _ i wr => ∃ k : Nat, k ≤ 64 ∧ i = .int .i64 k ∧ Blk wr g (bv (xorTo 0x36 k pk)).toArray 5 ∧ Blk wr h (bv (xorTo 0x5c k pk)).toArray 5 ∧ Fresh w wr ∧ Rd wr (.slice B l.length d) l)
    (fun _ i _ => 64 - (intOf i).toNat)
  case atStart => exact ⟨0, by omega, rfl, by rw [xorTo_zero]; exact HG2.out, by rw [xorTo_zero]; exact HH2.out, HU2.out, HD4.out⟩
  case round =>
    obtain ⟨k, hk, rfl, hbg, hbh, hu, hrd⟩ := hrel
    have HG : Hid (Blk wr g (bv (xorTo 0x36 k pk)).toArray 5) := hbg
    have HH : Hid (Blk wr h (bv (xorTo 0x5c k pk)).toArray 5) := hbh
    have HU : Hid (Fresh w wr) := hu
    have HR : Hid (Rd wr (.slice B l.length d) l) := hrd
    clear hbg hbh hu hrd HG2 HH2 HU2 HD4
    by_cases hlt : k < 64
    · have cg : wr.cell? ⟨g, k, none⟩ = some (.int .u8 (I8 (pk[k]'(by omega)))) := by
        have := HG.out.bytes k (by rw [xorTo_length]; omega)
        rwa [Nat.zero_add, xorTo_get _ _ _ (by omega)] at this
      have ch : wr.cell? ⟨h, k, none⟩ = some (.int .u8 (I8 (pk[k]'(by omega)))) := by
        have := HH.out.bytes k (by rw [xorTo_length]; omega)
        rwa [Nat.zero_add, xorTo_get _ _ _ (by omega)] at this
      have fg := HG.out.free k
      have fh := HH.out.free k
      have HX1 : Hid _ := xorTo_set 0x36 k pk (by omega)
      have HX2 : Hid _ := xorTo_set 0x5c k pk (by omega)
      generalize pk[k]'(by omega) = x at *
      have hk64 : (k : Int) < 64 := by omega
      go_wp2
      go_roundw
      case rel =>
        rw [xor36, xor5c]
        refine ⟨k + 1, by omega, by go_num, ?_, ?_, ?_, ?_⟩
        · rw [← HX1.out, ← bv_set]; exact (HG.out.set _ _).set_other (fun e => hgh e.symm) _
        · rw [← HX2.out, ← bv_set]; exact (HH.out.set_other hgh _).set _ _
        · exact (HU.out.setCell (fun e => by simp at e; omega) _).setCell (fun e => by simp at e; omega) _
        · exact HR.out.upd (S := fun k => k = g ∨ k = h) (((Upd.refl _ wr).setCell (fun _ => .inl rfl) _).setCell (fun _ => .inr rfl) _) (fun k hk e => by have := HDB.out k hk; omega)
      case measure => simp [intOf]; omega
    · obtain rfl : k = 64 := by omega
      rw [xorTo_all _ _ _ (by omega)] at HG HH
      have HO : Hid (Own wr w.heap.size (.slice (some ⟨g, 0, none⟩) 64 64) (pk.map (· ^^^ 0x36))) := by
        exact Own.of_blk' (cap := 64) HG.out hgo (pk.map (· ^^^ 0x36)) 64 (by simp; omega) (by simp; omega) (by unfold maxLen; omega) (by simp; omega) (by rw [List.take_of_length_le (by simp)])
      have HO2 : Hid (Own wr w.heap.size (.slice (some ⟨h, 0, none⟩) 64 64) (pk.map (· ^^^ 0x5c))) := by
        exact Own.of_blk' (cap := 64) HH.out hho (pk.map (· ^^^ 0x5c)) 64 (by simp; omega) (by simp; omega) (by unfold maxLen; omega) (by simp; omega) (by rw [List.take_of_length_le (by simp)])
      have L1 : (pk.map (· ^^^ 0x36)).length = 64 := by simp; omega
      have L2 : (pk.map (· ^^^ 0x5c)).length = 64 := by simp; omega
      generalize pk.map (· ^^^ 0x36) = ik at *
      generalize pk.map (· ^^^ 0x5c) = ok at *
      have hsz : w.heap.size < wr.heap.size := Nat.lt_of_le_of_lt hgo HG.out.lt
      go_wp2_with (at_builtin; go_must (refine wpList_app rfl (.tmp 44) (.tmp 45) rfl w.heap.size _ _ ik l rfl HO.out rfl HR.out (by omega) (by omega) ?_))
      intro v3 w3 hown hgrow
      have HO3 : Hid (Own w3 w.heap.size v3 (ik ++ l)) := hown
      have HU3 : Hid (Fresh w w3) := HU.out.grown hgrow (fun k hk hlt => by have := (HO.out.lt _ hk).1; omega)
      have HO4 : Hid (Own w3 w.heap.size (.slice (some ⟨h, 0, none⟩) 64 64) ok) := HO2.out.kept hgrow (.inr (fun e => hgh (Option.some.inj e).symm))
      clear hown hgrow HG HH
      obtain ⟨g3, c3, e3, hg3, _, _, _, _⟩ := HO3.out.form (by simp; omega)
      subst e3
      go_wp2_with fail
      have e3 : (ik ++ l).length = 64 + l.length := by simp [L1]
      refine (sha1_any (some ⟨g3, 0, none⟩) (64 + l.length) c3 (ik ++ l) w3 (e3 ▸ HO3.out.rd) (by omega)).mono ?_
      rintro e w4 ⟨r4, rfl, hown, hu⟩
      have HO5 : Hid (Own w4 w3.heap.size r4 (sha1Of (ik ++ l))) := hown
      have HU4 : Hid (Fresh w w4) := HU3.out.fresh hu
      have HO6 : Hid (Own w4 w.heap.size (.slice (some ⟨h, 0, none⟩) 64 64) ok) := HO4.out.upd hu (fun _ _ f => f)
      have HL1 := sha1Of_length (ik ++ l)
      have hsz4 : w.heap.size ≤ w4.heap.size := HU4.out.size
      clear hown hu
      generalize sha1Of (ik ++ l) = s1 at *
      go_wp2_with (at_builtin; go_must (refine wpList_app rfl (.tmp 43) (.tmp 47) rfl w.heap.size _ _ ok s1 rfl HO6.out rfl HO5.out.rd (by omega) hsz4 ?_))
      intro v5 w5 hown hgrow
      have HO7 : Hid (Own w5 w.heap.size v5 (ok ++ s1)) := hown
      have HU5 : Hid (Fresh w w5) := HU4.out.grown hgrow (fun k hk hlt => by have := (HO6.out.lt _ hk).1; omega)
      clear hown hgrow
      obtain ⟨g5, c5, e5, hg5, _, _, _, _⟩ := HO7.out.form (by simp; omega)
      subst e5
      go_wp2_with fail
      have e5 : (ok ++ s1).length = 84 := by simp [L2, HL1]
      refine (sha1_any (some ⟨g5, 0, none⟩) 84 c5 (ok ++ s1) w5 (e5 ▸ HO7.out.rd) (by omega)).mono ?_
      rintro e w6 ⟨r6, rfl, hown, hu⟩
      have hsz5 : w.heap.size ≤ w5.heap.size := HU5.out.size
      have HO8 : Hid (Own w6 w.heap.size r6 (sha1Of (ok ++ s1))) := hown.base hsz5
      have HU6 : Hid (Fresh w w6) := HU5.out.fresh hu
      clear hown hu
      go_wp2
      go_ret
      refine ⟨_, rfl, ?_, HU6.out⟩
      rw [HMAC.out]; exact HO8.out
end Go.Proofs.YtpkipinamlbdoaaGreatDoor

/-
  Keys of whatever address: an empty slice without capacity besides: what the law's key may be. Conditions: as of the contracts that are widened.
-/
import Derived.Test.YtpkipinamlbdoaaGreatDoorOD
namespace Go.Proofs.YtpkipinamlbdoaaGreatDoor
open Go Go.RowKit
attribute [local go_sem] I32_cvt I8_cvt
/-- Bytes that read as a list, or an empty slice without capacity, whatever its address. -/
def Rk (w : World) (v : Value) (l : List UInt8) : Prop := Rd w v l ∨ ∃ A, v = .slice A 0 0 ∧ l = []
theorem Rk.rd {w : World} {v : Value} {l : List UInt8} (h : Rk w v l) (h0 : 0 < l.length) : Rd w v l := by
  rcases h with h | ⟨_, _, rfl⟩
  · exact h
  · simp at h0
theorem Rk.len {w : World} {A : Option Addr} {n c : Nat} {l : List UInt8} (h : Rk w (.slice A n c) l) : n = l.length := by
  rcases h with h | ⟨_, e, rfl⟩
  · exact h.len
  · cases e; rfl
theorem Rk.upd {S : Nat → Prop} {w w' : World} {v : Value} {l : List UInt8} (h : Rk w v l) (hu : Upd S w w') (hs : ∀ k, k < w.heap.size → ¬ S k) : Rk w' v l := by
  rcases h with h | h
  · exact .inl (h.upd hu (fun k hk => hs k (h.own_lt k hk)))
  · exact .inr h
/-- append(s, x...): x an empty slice, whatever its address. -/
theorem wpList_appE {w : World} {ops : Array Oper} {rest : List Oper} {o : Oper} {a : Act} {Q : Exit → Act → World → Prop} (hgd : o.guard = none) (s x : Operand)
    (ho : o.op = .call { callee := .builtin .append, args := #[s, x], argTypes := #[22, 22] })
    (base : Nat) (v : Value) (A : Option Addr) (L : List UInt8) (hs : a.eval s = v) (hown : Own w base v L) (hx : a.eval x = .slice A 0 0)
    (hbytes : L.length ≤ 140737488355328) (hbase : base ≤ w.heap.size)
    (h : ∀ v' w', Own w' base v' L → w.grownBy w' v.ownBlock → wpList Tryz.prog ops Q rest (a.put o.dst v') w') : wpList Tryz.prog ops Q (o :: rest) a w := by
  obtain ⟨i0, hi, hz0, hz1, hz2⟩ := info_parts info5
  cases A with
  | none =>
    refine wpList_append_own_none hgd s x 22 ho base 5 i0 1 Tryz.underlying22 hi v L.length (bv L) hs hown hx ?_
    exact h v w hown ⟨rfl, rfl, rfl, Nat.le_refl _, fun _ _ _ => rfl⟩
  | some ad =>
    refine wpList_append_own w hgd s x 22 ho base 5 i0 (.int .u8 0) 1 1 Tryz.underlying22 hi hz0 hz1 hz2 rfl (by decide) v L.length (bv L) hs hown ad 0 0 [] hx rfl (fun j u hj => by simp at hj) (fun u hu => by simp at hu) (by unfold maxLen; omega) (by omega) hbase ?_
    intro v' w' h1 h2 _
    exact h v' w' (by simpa using h1) h2
/-- copy(dst, src): src a key. -/
theorem wpList_copyK {w : World} {ops : Array Oper} {rest : List Oper} {o : Oper} {a : Act} {Q : Exit → Act → World → Prop} (hgd : o.guard = none) (d s : Operand)
    (ho : o.op = .call { callee := .builtin .copy, args := #[d, s], argTypes := #[22, 22] }) (g off n c : Nat) (y : Value) (cur : Array Value) (l : List UInt8)
    (hd : a.eval d = .slice (some ⟨g, off, none⟩) n c) (hs : a.eval s = y) (hrd : Rk w y l) (hg : Blk w g cur 5) (hn : off + n ≤ cur.size) (hl : l.length ≤ n)
    (h : ∀ w', Blk w' g (splice cur.toList off (bv l)).toArray 5 → Upd (fun k => k = g) w w' → wpList Tryz.prog ops Q rest (a.put o.dst (goInt l.length)) w') :
    wpList Tryz.prog ops Q (o :: rest) a w := by
  rcases hrd with hrd | ⟨A, rfl, rfl⟩
  · exact wpList_copyB hgd d s ho g off n c y cur l hd hs hrd hg hn hl h
  · refine wpList_copy_nothing hgd d s 22 22 ho 5 Tryz.underlying22 info5s _ A n c 0 0 hd hs (by simp) ?_
    exact h w (by simpa [splice, bv] using hg) (Upd.refl _ _)
set_option maxRecDepth 100000 in
set_option maxHeartbeats 8000000 in
theorem mac_key (A B : Option Addr) (n c m d : Nat) (key l : List UInt8) (w : World) (hk : Rk w (.slice A n c) key) (hd : Rd w (.slice B m d) l) (hkl : key.length ≤ 100000) (hlen : l.length ≤ 100000) :
    Calls Tryz.prog 21 #[.slice A n c, .slice B m d] w fun e w' => ∃ r, e = .returned r ∧ Own w' w.heap.size r (macOf key l) ∧ Fresh w w' := by
  have HK : Hid (Rk w (.slice A n c) key) := hk
  have HD : Hid (Rd w (.slice B m d) l) := hd
  obtain rfl := hk.len
  obtain rfl := hd.len
  clear hk hd
  go_enter Tryz.func21, Tryz.ntmps21
  go_upto_if 10 with fail
  go_cut [0] (fun s0 wx => ∃ A c, s0 = .slice A (macKey key).length c ∧ Rk wx (.slice A (macKey key).length c) (macKey key) ∧ Fresh w wx)
  case first =>
    by_cases h64 : 64 < key.length
    · go_wp2_with fail
      refine (sha1_any A key.length c key w (HK.out.rd (by omega)) (by omega)).mono ?_
      rintro e w1 ⟨r1, rfl, hown1, hu1⟩
      have hmk : macKey key = sha1Of key := by unfold macKey; rw [if_pos (by omega)]
      obtain ⟨g1, c1, rfl, _, _, _, _, _⟩ := hown1.form (by rw [sha1Of_length]; omega)
      go_wp2_with fail
      go_meet
      rw [hmk]
      exact ⟨_, _, rfl, .inl hown1.rd, hu1⟩
    · have hmk : macKey key = key := by unfold macKey; rw [if_neg (by omega)]
      go_wp2_with fail
      go_meet
      rw [hmk]
      exact ⟨_, _, rfl, HK.out, Upd.refl _ _⟩
  case rest =>
  obtain ⟨A1, c1, rfl, hrk, hu⟩ := hcut
  have HK1 : Hid (Rk wc (.slice A1 (macKey key).length c1) (macKey key)) := hrk
  have HU1 : Hid (Fresh w wc) := hu
  have HD1 : Hid (Rd wc (.slice B l.length d) l) := HD.out.upd hu (fun _ _ f => f)
  clear hrk hu HK HD
  go_upto_region 3 with fail
  go_cut [5, 6] (fun s5 s6 wx => ∃ g h, s5 = .slice (some ⟨g, 0, none⟩) 64 64 ∧ s6 = .slice (some ⟨h, 0, none⟩) 64 64 ∧ g ≠ h ∧ wc.heap.size ≤ g ∧ wc.heap.size ≤ h ∧ Blk wx g (Zb 64) 5 ∧ Blk wx h (Zb 64) 5 ∧ Fresh wc wx)
  case first =>
    have hmake := run_make64
    go_region
    all_goals go_wp2_with fail
    all_goals go_meet
    · exact ⟨_, _, rfl, rfl, by omega, by omega, by omega, (Blk.new _ _ _).alloc _, heap_alloc_new' _ _ _ (by simp), (((Upd.refl (fun _ => False) wc).alloc _).alloc _).drew⟩
    · exact ⟨_, _, rfl, rfl, by omega, by omega, by omega, heap_alloc_new' _ _ _ (by simp), (Blk.new _ _ _).alloc _, (((Upd.refl (fun _ => False) wc).alloc _).alloc _).drew⟩
  case rest =>
  obtain ⟨wo, rfl⟩ : ∃ wo : World, wo = wc := ⟨_, rfl⟩
  obtain ⟨g, h, rfl, rfl, hgh, hg, hh, hbg, hbh, hu⟩ := hcut
  have HG : Hid (Blk wo g (Zb 64) 5) := hbg
  have HH : Hid (Blk wo h (Zb 64) 5) := hbh
  have HU : Hid (Fresh w wo) := HU1.out.fresh hu
  have HK2 : Hid (Rk wo (.slice A1 (macKey key).length c1) (macKey key)) := HK1.out.upd hu (fun _ _ f => f)
  have HUC : Hid (Fresh wc wo) := hu
  have HD2 : Hid (Rd wo (.slice B l.length d) l) := HD1.out.upd hu (fun _ _ f => f)
  have hgo : w.heap.size ≤ g := by have := HU1.out.size; omega
  have hho : w.heap.size ≤ h := by have := HU1.out.size; omega
  have hdb := HD1.out.own_lt
  have HDB : Hid (∀ k, (Value.slice B l.length d).ownBlock = some k → k < wc.heap.size) := hdb
  clear hbg hbh hu HD1 hdb HU1
  have hmkl := macKey_length key
  have HPK : Hid (padKey key = macKey key ++ List.replicate (64 - (macKey key).length) 0) := rfl
  have hpl := padKey_length key
  have HMAC : Hid (macOf key l = sha1Of ((padKey key).map (· ^^^ 0x5c) ++ sha1Of ((padKey key).map (· ^^^ 0x36) ++ l))) := rfl
  generalize macKey key = mk at *
  generalize padKey key = pk at *
  go_wp2_with (first | (refine wpList_copyK rfl (.tmp 15) (.tmp 16) rfl g 0 64 64 _ (Zb 64) mk rfl rfl HK2.out HG.out (by rw [Zb_size]; omega) hmkl ?_))
  intro w1 hb1 hu1
  have HG1 : Hid (Blk w1 g (bv pk).toArray 5) := by show _ = _; rw [HPK.out, ← splice_pad mk hmkl]; exact hb1
  have HH1 : Hid (Blk w1 h (Zb 64) 5) := HH.out.upd hu1 (by omega)
  have HK3 : Hid (Rk w1 (.slice A1 mk.length c1) mk) := HK1.out.upd (HUC.out.newer hu1 (fun k e => by omega)) (fun _ _ f => f)
  have HD3 : Hid (Rd w1 (.slice B l.length d) l) := HD2.out.upd hu1 (fun k hk e => by have := HDB.out k hk; omega)
  have HU1 : Hid (Fresh w w1) := HU.out.newer hu1 (fun k e => by omega)
  clear hb1 hu1 HG HH HK2 HD2 HU
  go_wp2_with (first | (refine wpList_copyK rfl (.tmp 18) (.tmp 19) rfl h 0 64 64 _ (Zb 64) mk rfl rfl HK3.out HH1.out (by rw [Zb_size]; omega) hmkl ?_))
  intro w2 hb1 hu1
  have HH2 : Hid (Blk w2 h (bv pk).toArray 5) := by show _ = _; rw [HPK.out, ← splice_pad mk hmkl]; exact hb1
  have HG2 : Hid (Blk w2 g (bv pk).toArray 5) := HG1.out.upd hu1 (by omega)
  have HD4 : Hid (Rd w2 (.slice B l.length d) l) := HD3.out.upd hu1 (fun k hk e => by have := HDB.out k hk; omega)
  have HU2 : Hid (Fresh w w2) := HU1.out.newer hu1 (fun k e => by omega)
  clear hb1 hu1 HG1 HH1 HK3 HD3 HU1
  go_wp2
  go_loopw [7, 23] (fun _ i wr => ∃ k : Nat, k ≤ 64 ∧ i = .int .i64 k ∧ Blk wr g (bv (xorTo 0x36 k pk)).toArray 5 ∧ Blk wr h (bv (xorTo 0x5c k pk)).toArray 5 ∧ Fresh w wr ∧ Rd wr (.slice B l.length d) l)
    (fun _ i _ => 64 - (intOf i).toNat)
  case atStart => exact ⟨0, by omega, rfl, by rw [xorTo_zero]; exact HG2.out, by rw [xorTo_zero]; exact HH2.out, HU2.out, HD4.out⟩
  case round =>
    obtain ⟨k, hk, rfl, hbg, hbh, hu, hrd⟩ := hrel
    have HG : Hid (Blk wr g (bv (xorTo 0x36 k pk)).toArray 5) := hbg
    have HH : Hid (Blk wr h (bv (xorTo 0x5c k pk)).toArray 5) := hbh
    have HU : Hid (Fresh w wr) := hu
    have HR : Hid (Rd wr (.slice B l.length d) l) := hrd
    clear hbg hbh hu hrd HG2 HH2 HU2 HD4
    by_cases hlt : k < 64
    · have cg : wr.cell? ⟨g, k, none⟩ = some (.int .u8 (I8 (pk[k]'(by omega)))) := by
        have := HG.out.bytes k (by rw [xorTo_length]; omega)
        rwa [Nat.zero_add, xorTo_get _ _ _ (by omega)] at this
      have ch : wr.cell? ⟨h, k, none⟩ = some (.int .u8 (I8 (pk[k]'(by omega)))) := by
        have := HH.out.bytes k (by rw [xorTo_length]; omega)
        rwa [Nat.zero_add, xorTo_get _ _ _ (by omega)] at this
      have fg := HG.out.free k
      have fh := HH.out.free k
      have HX1 : Hid _ := xorTo_set 0x36 k pk (by omega)
      have HX2 : Hid _ := xorTo_set 0x5c k pk (by omega)
      generalize pk[k]'(by omega) = x at *
      have hk64 : (k : Int) < 64 := by omega
      go_wp2
      go_roundw
      case rel =>
        rw [xor36, xor5c]
        refine ⟨k + 1, by omega, by go_num, ?_, ?_, ?_, ?_⟩
        · rw [← HX1.out, ← bv_set]; exact (HG.out.set _ _).set_other (fun e => hgh e.symm) _
        · rw [← HX2.out, ← bv_set]; exact (HH.out.set_other hgh _).set _ _
        · exact (HU.out.setCell (fun e => by simp at e; omega) _).setCell (fun e => by simp at e; omega) _
        · exact HR.out.upd (S := fun k => k = g ∨ k = h) (((Upd.refl _ wr).setCell (fun _ => .inl rfl) _).setCell (fun _ => .inr rfl) _) (fun k hk e => by have := HDB.out k hk; omega)
      case measure => simp [intOf]; omega
    · obtain rfl : k = 64 := by omega
      rw [xorTo_all _ _ _ (by omega)] at HG HH
      have HO : Hid (Own wr w.heap.size (.slice (some ⟨g, 0, none⟩) 64 64) (pk.map (· ^^^ 0x36))) := by
        exact Own.of_blk' (cap := 64) HG.out hgo (pk.map (· ^^^ 0x36)) 64 (by simp; omega) (by simp; omega) (by unfold maxLen; omega) (by simp; omega) (by rw [List.take_of_length_le (by simp)])
      have HO2 : Hid (Own wr w.heap.size (.slice (some ⟨h, 0, none⟩) 64 64) (pk.map (· ^^^ 0x5c))) := by
        exact Own.of_blk' (cap := 64) HH.out hho (pk.map (· ^^^ 0x5c)) 64 (by simp; omega) (by simp; omega) (by unfold maxLen; omega) (by simp; omega) (by rw [List.take_of_length_le (by simp)])
      have L1 : (pk.map (· ^^^ 0x36)).length = 64 := by simp; omega
      have L2 : (pk.map (· ^^^ 0x5c)).length = 64 := by simp; omega
      generalize pk.map (· ^^^ 0x36) = ik at *
      generalize pk.map (· ^^^ 0x5c) = ok at *
      have hsz : w.heap.size < wr.heap.size := Nat.lt_of_le_of_lt hgo HG.out.lt
      go_wp2_with (at_builtin; go_must (refine wpList_app rfl (.tmp 44) (.tmp 45) rfl w.heap.size _ _ ik l rfl HO.out rfl HR.out (by omega) (by omega) ?_))
      intro v3 w3 hown hgrow
      have HO3 : Hid (Own w3 w.heap.size v3 (ik ++ l)) := hown
      have HU3 : Hid (Fresh w w3) := HU.out.grown hgrow (fun k hk hlt => by have := (HO.out.lt _ hk).1; omega)
      have HO4 : Hid (Own w3 w.heap.size (.slice (some ⟨h, 0, none⟩) 64 64) ok) := HO2.out.kept hgrow (.inr (fun e => hgh (Option.some.inj e).symm))
      clear hown hgrow HG HH
      obtain ⟨g3, c3, e3, hg3, _, _, _, _⟩ := HO3.out.form (by simp; omega)
      subst e3
      go_wp2_with fail
      have e3 : (ik ++ l).length = 64 + l.length := by simp [L1]
      refine (sha1_any (some ⟨g3, 0, none⟩) (64 + l.length) c3 (ik ++ l) w3 (e3 ▸ HO3.out.rd) (by omega)).mono ?_
      rintro e w4 ⟨r4, rfl, hown, hu⟩
      have HO5 : Hid (Own w4 w3.heap.size r4 (sha1Of (ik ++ l))) := hown
      have HU4 : Hid (Fresh w w4) := HU3.out.fresh hu
      have HO6 : Hid (Own w4 w.heap.size (.slice (some ⟨h, 0, none⟩) 64 64) ok) := HO4.out.upd hu (fun _ _ f => f)
      have HL1 := sha1Of_length (ik ++ l)
      have hsz4 : w.heap.size ≤ w4.heap.size := HU4.out.size
      clear hown hu
      generalize sha1Of (ik ++ l) = s1 at *
      go_wp2_with (at_builtin; go_must (refine wpList_app rfl (.tmp 43) (.tmp 47) rfl w.heap.size _ _ ok s1 rfl HO6.out rfl HO5.out.rd (by omega) hsz4 ?_))
      intro v5 w5 hown hgrow
      have HO7 : Hid (Own w5 w.heap.size v5 (ok ++ s1)) := hown
      have HU5 : Hid (Fresh w w5) := HU4.out.grown hgrow (fun k hk hlt => by have := (HO6.out.lt _ hk).1; omega)
      clear hown hgrow
      obtain ⟨g5, c5, e5, hg5, _, _, _, _⟩ := HO7.out.form (by simp; omega)
      subst e5
      go_wp2_with fail
      have e5 : (ok ++ s1).length = 84 := by simp [L2, HL1]
      refine (sha1_any (some ⟨g5, 0, none⟩) 84 c5 (ok ++ s1) w5 (e5 ▸ HO7.out.rd) (by omega)).mono ?_
      rintro e w6 ⟨r6, rfl, hown, hu⟩
      have hsz5 : w.heap.size ≤ w5.heap.size := HU5.out.size
      have HO8 : Hid (Own w6 w.heap.size r6 (sha1Of (ok ++ s1))) := hown.base hsz5
      have HU6 : Hid (Fresh w w6) := HU5.out.fresh hu
      clear hown hu
      go_wp2
      go_ret
      refine ⟨_, rfl, ?_, HU6.out⟩
      rw [HMAC.out]; exact HO8.out
set_option maxRecDepth 100000 in
set_option maxHeartbeats 4000000 in
theorem sign_key (A B : Option Addr) (m c n d : Nat) (l key : List UInt8) (w : World) (hd : Rd w (.slice A m c) l) (hk : Rk w (.slice B n d) key) (h4 : 4 ≤ l.length) (hlen : l.length ≤ 50000) (hkl : key.length ≤ 50000) :
    Calls Tryz.prog 9 #[.slice A m c, .slice B n d] w fun e w' => ∃ r, e = .returned r ∧ Own w' w.heap.size r (signOf l key) ∧ Fresh w w' := by
  have HD : Hid (Rd w (.slice A m c) l) := hd
  have HK : Hid (Rk w (.slice B n d) key) := hk
  obtain rfl := hd.len
  obtain rfl := hk.len
  have HS : Hid (signOf l key = lenUp 24 l ++ [0, 8, 0, 20] ++ macOf key (lenUp 24 l)) := rfl
  have hul := lenUp_length 24 l h4
  have hml := macOf_length key (lenUp 24 l)
  have hc24 : Calls Tryz.prog 18 #[.slice A l.length c, .int .i64 24] w fun e w' => ∃ r, e = .returned r ∧ Own w' w.heap.size r (lenUp 24 l) ∧ Fresh w w' := lengthened_any A l.length c 24 l w hd h4 (by omega) (by omega)
  clear hd hk
  generalize lenUp 24 l = u at *
  go_enter Tryz.func9, Tryz.ntmps9
  go_wp2_with fail
  refine hc24.mono ?_
  rintro e w1 ⟨v1, rfl, hown, hu⟩
  have HO1 : Hid (Own w1 w.heap.size v1 u) := hown
  have HU1 : Hid (Fresh w w1) := hu
  have hsz1 : w.heap.size ≤ w1.heap.size := hu.size
  clear hown hu HD hc24
  go_wp2_with (at_builtin; go_must (refine wpList_app_keeps rfl (.tmp 8) (.tmp 9) rfl w.heap.size _ _ u [0, 8, 0, 20] rfl (HO1.out.alloc _) rfl (Rd.built' w1 [0, 8, 0, 20] _ _ _ rfl rfl (by simp [bv, I8_def]) (by simp)) (by omega) (by simp) (by simp; omega) (by simp; omega) ?_))
  intro v2 w2 hown hgrow hrd
  have HO2 : Hid (Own w2 w.heap.size v2 (u ++ [0, 8, 0, 20])) := hown
  have HR2 : Hid (Rd w2 v1 u) := hrd
  have HU2 : Hid (Fresh w w2) := (HU1.out.alloc _).grown hgrow (fun k hk hlt => by have := (HO1.out.lt _ hk).1; omega)
  have HK2 : Hid (Rk w2 (.slice B key.length d) key) := HK.out.upd HU2.out (fun _ _ f => f)
  have hsz2 : w.heap.size ≤ w2.heap.size := HU2.out.size
  clear hown hgrow hrd HK
  obtain ⟨g1, c1, e1, _, _, _, _, _⟩ := HO1.out.form (by omega)
  subst e1
  go_wp2_with fail
  refine (mac_key B (some ⟨g1, 0, none⟩) key.length d l.length c1 key u w2 HK2.out (hul ▸ HR2.out) (by omega) (by omega)).mono ?_
  rintro e w3 ⟨v3, rfl, hown, hu⟩
  have HO3 : Hid (Own w3 w2.heap.size v3 (macOf key u)) := hown
  have HU3 : Hid (Fresh w w3) := HU2.out.fresh hu
  have HO4 : Hid (Own w3 w.heap.size v2 (u ++ [0, 8, 0, 20])) := HO2.out.upd hu (fun _ _ f => f)
  clear hown hu
  have hsz3 : w.heap.size ≤ w3.heap.size := HU3.out.size
  generalize macOf key u = mc at *
  go_wp2_with (at_builtin; go_must (refine wpList_app rfl (.tmp 10) (.tmp 13) rfl w.heap.size _ _ (u ++ [0, 8, 0, 20]) mc rfl HO4.out rfl HO3.out.rd (by simp; omega) hsz3 ?_))
  intro v4 w4 hown hgrow
  have HO5 : Hid (Own w4 w.heap.size v4 (u ++ [0, 8, 0, 20] ++ mc)) := by
    show Own _ _ _ _
    simpa using hown
  have HU4 : Hid (Fresh w w4) := HU3.out.grown hgrow (fun k hk hlt => by have := (HO4.out.lt _ hk).1; omega)
  clear hown hgrow
  go_wp2
  go_ret
  refine ⟨_, rfl, ?_, HU4.out⟩
  rw [HS.out]; exact HO5.out
set_option maxRecDepth 100000 in
set_option maxHeartbeats 4000000 in
theorem copied_key (A : Option Addr) (n c : Nat) (l : List UInt8) (w : World) (hd : Rk w (.slice A n c) l) (hlen : l.length ≤ 1000000) :
    Calls Tryz.prog 15 #[.slice A n c] w fun e w' => ∃ r, e = .returned r ∧ Own w' w.heap.size r l ∧ Fresh w w' := by
  rcases hd with hd | ⟨A', e, rfl⟩
  · exact copied_any A n c l w hd hlen
  cases e
  have HO : Hid (Own w w.heap.size (.slice none 0 0) []) := ⟨rfl, .inl ⟨rfl, rfl⟩⟩
  go_enter Tryz.func15, Tryz.ntmps15
  go_wp2_with (at_builtin; go_must (refine wpList_appE rfl (.const (.slice none 0 0)) (.tmp 3) rfl w.heap.size _ A [] rfl HO.out rfl (by simp) (Nat.le_refl _) ?_))
  intro v w1 hown hgrow
  have HO1 : Hid (Own w1 w.heap.size v []) := hown
  have HU1 : Hid (Fresh w w1) := (Upd.refl (fun _ => False) w).grown hgrow (fun k hk _ => by cases hk)
  clear hown hgrow
  go_wp2
  go_ret
  exact ⟨_, rfl, HO1.out, HU1.out⟩
set_option maxRecDepth 100000 in
set_option maxHeartbeats 8000000 in
theorem signed_key (a0 a1 a2 : Addr) (A B : Option Addr) (n c nk ck k : Nat) (l key : List UInt8) (ats : List (Nat × List UInt8)) (w : World) (hE : Errs a0 a1 a2 w) (hd : Rd w (.slice A n c) l) (hkey : Rk w (.slice B nk ck) key) (hkl : key.length ≤ 100000) (hlen : l.length ≤ 65000) (hdec : decodeL l = some ats)
    (hk : k < ats.length) (hT : compat (ats[k]).1 = 8) (hfirst : ∀ i (h : i < ats.length), i < k → compat (ats[i]).1 ≠ 8) (hv20 : (ats[k]).2.length = 20) (hreach : 20 + reach (ats.take k) + 24 ≤ l.length) (hval : (l.drop (20 + reach (ats.take k) + 4)).take 20 = (ats[k]).2) (hra : 20 + reach ats ≤ l.length) (hN : num l 2 2 < 65536) :
    Calls Tryz.prog 6 #[.slice A n c, .slice B nk ck] w fun e w' => e = .returned (.int .i64 (if (ats[k]).2 = macOf key ((lenSet (reach (ats.take k) + 24) l).take (20 + reach (ats.take k))) then 0 else 8)) ∧ Fresh w w' := by
  have HDE := Lib.hid (decoded_any A n c l ats w hd (by omega) (by omega) hdec)
  have HT := Lib.hid hT
  have HF := Lib.hid hfirst
  have HVAL := Lib.hid hval
  have HV20 := Lib.hid hv20
  have HR := Lib.hid hreach
  have HK := Lib.hid hkey
  have HE := Lib.hid hE
  clear hd hdec hT hfirst hval hE hkey hv20 hreach
  go_enter Tryz.func6, Tryz.ntmps6
  go_wp2_with fail
  refine Calls.mono HDE.out ?_
  rintro e w1 ⟨gm, gr, cr, rc, base, rfl, hu1, ⟨cur, S, xs, hb, hs, h2, h15, h16, hown, hrow⟩, hrb, hrs, hrt, hlc, hcm, hgr, hgm, hne⟩
  have HU1 : Hid (Fresh w w1) := hu1
  have HCP := Lib.hid (copied_key B nk ck key w1 (HK.out.upd hu1 (fun _ _ f => f)) (by omega))
  clear HDE
  go_wp2_with fail
  refine Calls.mono HCP.out ?_
  rintro e w2 ⟨r, rfl, hor, hu2⟩
  have HU2 : Hid (Fresh w w2) := HU1.out.fresh hu2
  obtain ⟨rA, rn, rcp, rfl⟩ : ∃ A n c, r = .slice A n c := by
    obtain ⟨_, ⟨h, _⟩ | ⟨g, cap, cc, h, _⟩⟩ := hor
    · exact ⟨_, _, _, h⟩
    · exact ⟨_, _, _, h⟩
  have hkb : ∀ q, (Value.slice rA rn rcp).ownBlock = some q → w1.heap.size ≤ q := by
    obtain ⟨_, ⟨h, _⟩ | ⟨g, cap, cc, h, hg, _⟩⟩ := hor
    · intro q e; rw [h] at e; cases e
    · intro q e; rw [h] at e; cases e; exact hg
  have hsb : ∀ q, S.ownBlock = some q → q ≠ gm ∧ q ≠ gr := by
    obtain ⟨_, ⟨h, _⟩ | ⟨g, cap, cc, h, _, hg, _⟩⟩ := hown
    · intro q e; rw [h] at e; cases e
    · intro q e; rw [h] at e
      obtain rfl : g = q := Option.some.inj e
      refine ⟨fun e => ?_, fun e => ?_⟩
      · subst e; have hb' : w1.heap[g]? = some (.cells cur 65 (0, 0)) := hb
        rw [hb'] at hg; simp at hg
      · subst e; have hb' : w1.heap[g]? = some (.cells rc 5 (0, 0)) := hrb
        rw [hb'] at hg; simp at hg
  have e1 : w2.cell? ⟨1, 0, none⟩ = some (.iface 146 (.pointer (some a1))) := HU2.out.cell (fun f => f) HE.out.g1
  have hg1 : 1 < w.heap.size := World.block_lt_of_cell? _ _ HE.out.g1
  have hl1 := hb.lt
  have hl2 := hrb.lt
  have HCK := Lib.hid (check_any gm gr l.length cr (num l 2 2) k rn rcp base rA key l cur rc S xs ats (.iface 146 (.pointer (some a1))) w2 (hb.upd hu2 (fun f => f)) hs h2 h15 h16 (owns_upd hown hu2 (fun _ _ f => f) (Nat.le_refl _)) hrow (hrb.upd hu2 (fun f => f)) hrs hrt rfl hlc hcm hlen hN (fun e => hne e.symm) (Own.rd hor) hkl (fun q e => by have := hkb q e; omega) hsb hk HT.out HF.out HV20.out HR.out HVAL.out hra e1 (by omega))
  have HGO : Hid _ := HCK.out
  clear HCP hu1 hu2 hb hs h2 h15 h16 hown hrow hrb hrs hrt hor hkb hsb e1 hg1 hl1 hl2 HGO
  go_wp2_with fail
  refine Calls.mono HCK.out ?_
  rintro e w3 ⟨rfl, hu3⟩
  have HU3 : Hid (Fresh w w3) := HU2.out.newer hu3 (fun k e => by omega)
  clear hu3 HCK
  have HE3 := Lib.hid (HE.out.fresh HU3.out)
  by_cases hq : (ats[k]).2 = (macOf key ((lenSet (reach (ats.take k) + 24) l).take (20 + reach (ats.take k))))
  · have HQ : Hid (same (ats[k]).2 (macOf key ((lenSet (reach (ats.take k) + 24) l).take (20 + reach (ats.take k)))) (.iface 146 (.pointer (some a1))) = .nilIface) := by show _ = _; unfold same; rw [if_pos hq]
    rw [HQ.out]
    have HIF := Lib.hid hq
    clear hq
    go_wp2_with fail
    refine Calls.mono (codeOf_nil w3) ?_
    rintro e w4 ⟨rfl, rfl⟩
    go_wp2_with fail
    all_goals go_ret
    all_goals first | exact ⟨rfl, HU3.out⟩ | (exfalso; first | exact absurd HIF.out (by assumption) | exact HIF.out (by assumption))
  · have HQ : Hid (same (ats[k]).2 (macOf key ((lenSet (reach (ats.take k) + 24) l).take (20 + reach (ats.take k)))) (.iface 146 (.pointer (some a1))) = .iface 146 (.pointer (some a1))) := by show _ = _; unfold same; rw [if_neg hq]
    rw [HQ.out]
    have HIF := Lib.hid hq
    clear hq
    go_wp2_with fail
    refine Calls.mono (codeOf_integrity a0 a1 a2 w3 HE3.out) ?_
    rintro e w4 ⟨rfl, rfl⟩
    go_wp2_with fail
    all_goals go_ret
    all_goals first | exact ⟨rfl, HU3.out⟩ | (exfalso; first | exact absurd HIF.out (by assumption) | exact HIF.out (by assumption))
end Go.Proofs.YtpkipinamlbdoaaGreatDoor

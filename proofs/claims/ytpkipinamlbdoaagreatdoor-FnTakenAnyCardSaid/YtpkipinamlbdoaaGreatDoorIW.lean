/-
  The walk of the library's digest: Write. Conditions: some bytes, at most a million in all; they lie in another block.
-/
import Derived.Test.YtpkipinamlbdoaaGreatDoorIC
import Derived.Test.YtpkipinamlbdoaaGreatDoorIM
import Derived.Deep.RegionLaw
import Derived.Deep.CutRange
import Derived.Deep.DeepCutAuto
namespace Go.Proofs.YtpkipinamlbdoaaGreatDoor
open Go Go.RowKit
theorem blk_any (gd gb k n c : Nat) (p : List UInt8) (s : S5) (x : List UInt8) (nx len : Nat) (w : World) (hx : x.length = 64) (hb : Blk w gd (digv s x nx len) 115) (hp : Bytes w gb k p) (hn : n = p.length) (hnc : n ≤ c) (hc : c ≤ maxLen) (h64 : n % 64 = 0) (hmax : n ≤ 1000200) :
    Calls Tryz.prog 109 #[.pointer (some ⟨gd, 0, none⟩), .slice (some ⟨gb, k, none⟩) n c] w fun e w' => e = .returned (.tuple #[]) ∧ ∃ s', s' = blocks (p.length / 64) s p ∧ Blk w' gd (digv s' x nx len) 115 ∧ Upd (fun k => k = gd) w w' := by
  have HC : Hid _ := block_any gd gb k n c 115 (digv s x nx len) p s w hb (by rw [digv_size _ _ _ _ hx]; omega) (by simp [digv, digL]) (by simp [digv, digL]) (by simp [digv, digL]) (by simp [digv, digL]) (by simp [digv, digL]) hp hn hnc hc h64 hmax
  clear hx hb hp hn hnc hc h64 hmax
  go_enter Tryz.func109, Tryz.ntmps109
  go_wp2_with fail
  refine Calls.mono HC.out ?_
  rintro e w1 ⟨rfl, s', hs, hb, hu⟩
  have HS : Hid (s' = blocks (p.length / 64) s p) := hs
  have HB : Hid (Blk w1 gd (digv s' x nx len) 115) := by
    show Blk _ _ _ _
    rw [digv_set_h] at hb; exact hb
  clear hs hb
  go_wp2
  go_end0
  exact ⟨rfl, s', HS.out, HB.out, hu⟩
theorem run_from' (b o n cap a : Nat) (x : Int) (hx : x = a) (h : a ≤ n) (hc : n ≤ cap) :
    ∃ ad, (0 < n - a → ad = (⟨b, o + a, none⟩ : Addr)) ∧ ∀ w : World, (Instr.slice 22 (.slice (some ⟨b, o, none⟩) n cap) (some (.int .i64 x)) none none).run Tryz.prog w = .ok (.slice (some ad) (n - a) (cap - a)) w := by
  subst hx
  have h1 : (a : Int) ≤ n := by omega
  by_cases hne : cap = a
  · exact ⟨⟨b, o, none⟩, fun hp => by omega, fun w => by simp [go_sem, h1, hne]⟩
  · exact ⟨⟨b, o + a, none⟩, fun _ => rfl, fun w => by simp [go_sem, h1, hne]⟩
theorem andNot63 (n : Nat) (h : n < 2 ^ 62) : bits .andNot .i64 (n : Int) 63 = ((n - n % 64 : Nat) : Int) := by
  have hk : ∀ m : Nat, m < 2 ^ 62 → IntKind.i64.wrap (m : Int) = m := fun m hm => by rw [IntKind.wrap_i64]; omega
  have e : (BitVec.ofNat 64 n &&& ~~~ BitVec.ofNat 64 63) = BitVec.ofNat 64 (n - n % 64) := by
    apply BitVec.eq_of_getLsbD_eq
    intro i hi
    rw [BitVec.getLsbD_and, BitVec.getLsbD_not, BitVec.getLsbD_ofNat, BitVec.getLsbD_ofNat, BitVec.getLsbD_ofNat]
    have e1 : n - n % 64 = (n / 64) * 2 ^ 6 := by omega
    rw [e1, Nat.testBit_mul_two_pow, show (63 : Nat) = 2 ^ 6 - 1 by rfl, Nat.testBit_two_pow_sub_one, show (64 : Nat) = 2 ^ 6 by rfl, Nat.testBit_div_two_pow]
    by_cases h6 : 6 ≤ i
    · simp [h6, hi, show ¬ i < 6 by omega]
    · simp [h6, hi, show i < 6 by omega]
  show IntKind.i64.wrap ((BitVec.ofInt 64 (n : Int) &&& ~~~ BitVec.ofInt 64 63).toNat : Int) = _
  rw [BitVec.ofInt_natCast, show BitVec.ofInt 64 63 = BitVec.ofNat 64 63 from rfl, e, BitVec.toNat_ofNat, Nat.mod_eq_of_lt (by omega)]
  exact hk _ (by omega)
/-- What is left of the bytes to be written. -/
def PQ (b : Nat) (w : World) (v : Value) (q : List UInt8) : Prop :=
  ∃ (ad : Addr) (n c : Nat), v = .slice (some ad) n c ∧ n = q.length ∧ n ≤ c ∧ c ≤ 9223372036854775807 ∧ (0 < n → ∃ o, ad = ⟨b, o, none⟩ ∧ Bytes w b o q)
set_option maxRecDepth 100000 in
set_option maxHeartbeats 4000000 in
theorem write_any (g b o n c : Nat) (data p : List UInt8) (w : World) (hd : Dig w g data) (hp : Bytes w b o p) (hn : n = p.length) (hnc : n ≤ c) (hc : c ≤ maxLen) (hgb : b ≠ g) (h0 : 0 < n) (hlen : data.length + p.length ≤ 1000000) :
    Calls Tryz.prog 103 #[.pointer (some ⟨g, 0, none⟩), .slice (some ⟨b, o, none⟩) n c] w fun e w' => e = .returned (.tuple #[.int .i64 n, .nilIface]) ∧ Dig w' g (data ++ p) ∧ Upd (fun k => k = g) w w' := by
  unfold maxLen at hc
  obtain ⟨x, hx, hwt, hb⟩ := hd
  have HX : Hid (x.length = 64) := hx
  have HWT : Hid (x.take (data.length % 64) = waits data) := hwt
  have HB : Hid (Blk w g (digv (stOf data) x (data.length % 64) data.length) 115) := hb
  have HP : Hid (Bytes w b o p) := hp
  have HN : Hid (n = p.length) := hn
  have c70 : w.cell? ⟨g, 70, none⟩ = some (.int .u64 (data.length : Nat)) := by rw [HB.out.cell]; exact digv_len _ _ _ _ hx
  have c69 : w.cell? ⟨g, 69, none⟩ = some (.int .i64 ((data.length % 64 : Nat) : Int)) := by rw [HB.out.cell]; exact digv_nx _ _ _ _ hx
  have f70 := HB.out.free 70
  have f69 := HB.out.free 69
  have hlen2 : data.length + n ≤ 1000000 := by omega
  have HLEN : Hid (data.length + p.length ≤ 1000000) := hlen
  clear hx hwt hb hp hn hlen
  generalize hnx : data.length % 64 = nx at *
  have HNX : Hid (data.length % 64 = nx) := hnx
  have hnx64 : nx < 64 := by omega
  clear hnx
  generalize hL : data.length = L at *
  have HL : Hid (data.length = L) := hL
  clear hL
  go_enter Tryz.func103, Tryz.ntmps103
  go_upto_if 23 with fail
  have HB1 : Hid (Blk (w.setCell ⟨g, 70, none⟩ (.int .u64 (L + n))) g (digv (stOf data) x nx (L + n)) 115) := by
    have := HB.out.set 70 (.int .u64 ((L + n : Nat) : Int))
    rw [digv_set_len _ _ _ _ _ HX.out] at this
    exact this
  have HU1 : Hid (Upd (fun k => k = g) w (w.setCell ⟨g, 70, none⟩ (.int .u64 (L + n)))) := Upd.setCell (S := fun k => k = g) (Upd.refl _ w) (p := ⟨g, 70, none⟩) (fun _ => rfl) _
  have HP1 : Hid (Bytes (w.setCell ⟨g, 70, none⟩ (.int .u64 (L + n))) b o p) := HP.out.upd HU1.out hgb
  have HMOD : Hid (data.length % 64 = nx) := by show _ = _; rw [HL.out]; exact HNX.out
  clear c70 c69 f70 f69 HB HP
  generalize w.setCell ⟨g, 70, none⟩ (.int .u64 (L + n)) = w1 at *
  have c69 : w1.cell? ⟨g, 69, none⟩ = some (.int .i64 (nx : Int)) := by rw [HB1.out.cell]; exact digv_nx _ _ _ _ HX.out
  have f69 := HB1.out.free 69
  go_cut [1] (fun v wx => ∃ data1 q, PQ b wx v q ∧ data1 ++ q = data ++ p ∧ DigC wx g data1 (L + n) ∧ (q = [] ∨ data1.length % 64 = 0) ∧ Upd (fun k => k = g) w wx)
  case first =>
    by_cases h0x : 0 < nx
    · have hnxc : (nx : Int) ≤ 64 := by omega
      have hn64 : ¬ 64 = nx := by omega
      have hd1 : Fresh w1 w1.drew := (Upd.refl _ w1).drew
      have HPd : Hid (Bytes w1.drew b o p) := HP1.out.upd hd1 (fun f => f)
      have HBd : Hid (Blk w1.drew g (digv (stOf data) x nx (L + n)) 115) := HB1.out.upd hd1 (fun f => f)
      have HUd : Hid (Upd (fun k => k = g) w w1.drew) := HU1.out.drew
      have hbl : b < w1.drew.heap.size := World.block_lt_of_cell? _ _ (HPd.out 0 (by have := HN.out; omega))
      clear hd1
      go_upto_region 4 with fail
      go_region_law (first | (refine step_copyT rfl (.tmp 31) (.tmp 32) rfl g (5 + nx) (64 - nx) (64 - nx) _ (digv (stOf data) x nx (L + n)) 115 p rfl rfl (.at_ b o n c p HN.out hnc (by unfold maxLen; omega) HPd.out hbl) HBd.out (by rw [digv_size _ _ _ _ HX.out]; omega) (min p.length (64 - nx)) rfl ?_; intro w2 hb2 hu2))
      have HUW : Hid (Upd (fun k => k = g) w w2) := HUd.out.trans hu2
      have hp1l : (p.take (64 - nx)).length = min p.length (64 - nx) := by rw [List.length_take, Nat.min_comm]
      obtain ⟨p1, hp1⟩ : ∃ p1, p1 = p.take (64 - nx) := ⟨_, rfl⟩
      rw [← hp1] at hb2 hp1l
      rw [digv_splice _ _ _ _ _ _ HX.out (by rw [hp1l]; omega)] at hb2
      have hx2l := spliced_length x p1 nx HX.out (by rw [hp1l]; omega)
      have HP2 : Hid (Bytes w2 b o p) := HPd.out.upd hu2 hgb
      generalize hn1 : min p.length (64 - nx) = n1 at *
      have HN1 : Hid (min p.length (64 - nx) = n1) := hn1
      have HP1L : Hid (p1.length = n1) := hp1l
      have HP1 : Hid (p1 = p.take (64 - nx)) := hp1
      obtain ⟨x2, hx2⟩ : ∃ x2, x2 = x.take nx ++ p1 ++ x.drop (nx + p1.length) := ⟨_, rfl⟩
      rw [← hx2] at hb2 hx2l
      have HX2 : Hid (x2 = x.take nx ++ p1 ++ x.drop (nx + p1.length)) := hx2
      have HX2L : Hid (x2.length = 64) := hx2l
      have HB2 : Hid (Blk w2 g (digv (stOf data) x2 nx (L + n)) 115) := hb2
      have hnn := HN.out
      have hn1le : n1 ≤ n ∧ nx + n1 ≤ 64 := by omega
      obtain ⟨ad, had, hsl⟩ := run_from' b o n c n1 n1 rfl hn1le.1 hnc
      have HAD : Hid (0 < n - n1 → ad = ⟨b, o + n1, none⟩) := had
      have hcase : (nx + n1 < 64 ∧ n1 = n) ∨ nx + n1 = 64 := by omega
      clear hx2 hx2l hb2 hp1l hn1 had hu2 hnn hp1 HPd HBd HUd c69 f69 HB1 HU1
      have c69 : w2.cell? ⟨g, 69, none⟩ = some (.int .i64 (nx : Int)) := by rw [HB2.out.cell]; exact digv_nx _ _ _ _ HX2L.out
      have f69 := HB2.out.free 69
      go_upto_if 46 with fail
      have HB3 : Hid (Blk (w2.setCell ⟨g, 69, none⟩ (.int .i64 (nx + n1))) g (digv (stOf data) x2 (nx + n1) (L + n)) 115) := by
        have := HB2.out.set 69 (.int .i64 ((nx + n1 : Nat) : Int))
        rw [digv_set_nx _ _ _ _ _ HX2L.out] at this
        exact this
      have hu3 : Upd (fun k => k = g) w2 (w2.setCell ⟨g, 69, none⟩ (.int .i64 (nx + n1))) := Upd.setCell (S := fun k => k = g) (Upd.refl _ w2) (p := ⟨g, 69, none⟩) (fun _ => rfl) _
      have HU3 : Hid (Upd (fun k => k = g) w (w2.setCell ⟨g, 69, none⟩ (.int .i64 (nx + n1)))) := HUW.out.trans hu3
      have HP3 : Hid (Bytes (w2.setCell ⟨g, 69, none⟩ (.int .i64 (nx + n1))) b o p) := HP2.out.upd hu3 hgb
      clear hu3 HUW HP2 c69 f69 HB2
      generalize w2.setCell ⟨g, 69, none⟩ (.int .i64 (nx + n1)) = w3 at *
      rcases hcase with ⟨hfew, hall⟩ | hfull
      · have ht : ((nx : Int) + n1 == 64) = false := by rw [beq_eq_false_iff_ne]; omega
        have hpp : p1 = p := by rw [HP1.out]; exact List.take_of_length_le (by have := HN.out; omega)
        have HPP : Hid (p1 = p) := hpp
        have HALL : Hid (n1 = n) := hall
        clear hpp hall
        go_wp2_with fail
        go_meet
        have hall := HALL.out
        have hpp := HPP.out
        refine ⟨data ++ p, [], ⟨ad, n - n1, c - n1, rfl, by simp; omega, by omega, by omega, fun hp => by omega⟩, by simp, ?_, .inl rfl, HU3.out⟩
        have hpl : p.length = n1 := by rw [← HN.out]; exact hall.symm
        refine DigC.few (x' := x2) HX.out (by rw [HMOD.out]; exact HWT.out) (by rw [HMOD.out, hpl]; exact hfew) (by rw [HMOD.out, HX2.out, hpp]) (by rw [HMOD.out, hpl]; exact HB3.out)
      · have ht : ((nx : Int) + n1 == 64) = true := by rw [beq_iff_eq]; omega
        have hx2e : x2 = waits data ++ p1 := by
          rw [HX2.out, HWT.out, HP1L.out, List.drop_of_length_le (by have := HX.out; omega), List.append_nil]
        have HX2E : Hid (x2 = waits data ++ p1) := hx2e
        clear hx2e
        go_wp2_with fail
        refine (blk_any g g 5 64 64 x2 (stOf data) x2 (nx + n1) (L + n) _ HX2L.out HB3.out HB3.out.dig_bytes HX2L.out.symm (Nat.le_refl _) (by unfold maxLen; omega) (by omega) (by omega)).mono ?_
        rintro e w4 ⟨rfl, s', hs', hb4, hu4⟩
        have HS' : Hid (s' = blocks (x2.length / 64) (stOf data) x2) := hs'
        have HB4 : Hid (Blk w4 g (digv s' x2 (nx + n1) (L + n)) 115) := hb4
        have HU4 : Hid (Upd (fun k => k = g) w w4) := HU3.out.trans hu4
        have HP4 : Hid (Bytes w4 b o p) := HP3.out.upd hu4 hgb
        clear hs' hb4 hu4 HB3 HU3 HP3
        obtain ⟨v69, c69⟩ := HB4.out.some (j := 69) (by rw [digv_size _ _ _ _ HX2L.out]; omega)
        have f69 := HB4.out.free 69
        go_wp2_with fail
        have HB5 : Hid (Blk (w4.setCell ⟨g, 69, none⟩ (.int .i64 0)) g (digv s' x2 0 (L + n)) 115) := by
          have := HB4.out.set 69 (.int .i64 ((0 : Nat) : Int))
          rw [digv_set_nx _ _ _ _ _ HX2L.out] at this
          exact this
        have hu5 : Upd (fun k => k = g) w4 (w4.setCell ⟨g, 69, none⟩ (.int .i64 0)) := Upd.setCell (S := fun k => k = g) (Upd.refl _ w4) (p := ⟨g, 69, none⟩) (fun _ => rfl) _
        go_meet
        refine ⟨data ++ p1, p.drop n1, ⟨ad, n - n1, c - n1, rfl, by rw [List.length_drop, HN.out], by omega, by omega, fun hp => ⟨_, HAD.out hp, ((HP4.out.upd hu5 hgb).drop n1)⟩⟩, ?_, ?_, .inr ?_, HU4.out.trans hu5⟩
        · rw [List.append_assoc]; congr 1
          have e : p1 = p.take n1 := by
            rw [HP1.out, show 64 - nx = n1 by omega]
          rw [e, List.take_append_drop]
        · exact DigC.full HX2L.out HX2E.out (by rw [HMOD.out, HP1L.out]; exact hfull) HS'.out HB5.out
        · rw [List.length_append, HP1L.out]; have := HMOD.out; omega
    · obtain rfl : nx = 0 := by omega
      go_wp2_with fail
      go_meet
      exact ⟨data, p, ⟨_, n, c, rfl, HN.out, hnc, hc, fun _ => ⟨o, rfl, HP1.out⟩⟩, rfl, ⟨x, HX.out, by rw [HMOD.out]; exact HWT.out, by rw [HMOD.out]; exact HB1.out⟩, .inr HMOD.out, HU1.out⟩
  case rest =>
  obtain ⟨data1, q, ⟨ad, n1, c1, rfl, hn1, hnc1, hc1, hpos⟩, hcat, hdig, hor, hu⟩ := hcut
  have HCAT : Hid (data1 ++ q = data ++ p) := hcat
  have HDIG : Hid (DigC wc g data1 (L + n)) := hdig
  have HOR : Hid (q = [] ∨ data1.length % 64 = 0) := hor
  have HUC : Hid (Upd (fun k => k = g) w wc) := hu
  have HN1 : Hid (n1 = q.length) := hn1
  have HPOS : Hid (0 < n1 → ∃ o, ad = ⟨b, o, none⟩ ∧ Bytes wc b o q) := hpos
  have hn1m : n1 ≤ 1000000 := by
    have e := congrArg List.length hcat
    simp only [List.length_append] at e
    have := HLEN.out; have := HN.out; have := HL.out; omega
  clear hcat hdig hor hu hn1 hpos HB1 HU1 HP1 c69 f69
  go_upto_if 61 with fail
  go_cut [1] (fun v wx => ∃ data1 q, PQ b wx v q ∧ data1 ++ q = data ++ p ∧ DigC wx g data1 (L + n) ∧ (q = [] ∨ data1.length % 64 = 0) ∧ q.length < 64 ∧ Upd (fun k => k = g) w wx)
  case first =>
    by_cases h64 : 64 ≤ n1
    · obtain ⟨o1, rfl, hby⟩ := HPOS.out (by omega)
      have HBY : Hid (Bytes wc b o1 q) := hby
      have hd64 : data1.length % 64 = 0 := by
        rcases HOR.out with h | h
        · have := HN1.out; rw [h] at this; simp at this; omega
        · exact h
      have HD64 : Hid (data1.length % 64 = 0) := hd64
      have hand := andNot63 n1 (by omega)
      obtain ⟨n2, hn2⟩ : ∃ n2, n2 = n1 - n1 % 64 := ⟨_, rfl⟩
      rw [← hn2] at hand
      have HN2 : Hid (n2 = n1 - n1 % 64) := hn2
      have hn2c : n2 ≤ n1 ∧ n2 % 64 = 0 := by omega
      have hn2i : (n2 : Int) ≤ (c1 : Int) := by omega
      obtain ⟨ad2, had2, hsl2⟩ := run_from' b o1 n1 c1 n2 n2 rfl hn2c.1 hnc1
      have HAD2 : Hid (0 < n1 - n2 → ad2 = ⟨b, o1 + n2, none⟩) := had2
      obtain ⟨x1, hx1, hw1, hb1⟩ := HDIG.out
      rw [hd64] at hb1
      have HX1 : Hid (x1.length = 64) := hx1
      have HB1 : Hid (Blk wc g (digv (stOf data1) x1 0 (L + n)) 115) := hb1
      clear hn2 had2 hx1 hw1 hb1 hd64 hby HPOS HDIG HOR
      go_wp2_with fail
      refine (blk_any g b o1 n2 c1 (q.take n2) (stOf data1) x1 0 (L + n) _ HX1.out HB1.out (HBY.out.take n2) (by rw [List.length_take]; have := HN1.out; omega) (by omega) (by unfold maxLen; omega) hn2c.2 (by omega)).mono ?_
      rintro e w4 ⟨rfl, s', hs', hb4, hu4⟩
      have HS' : Hid (s' = blocks ((q.take n2).length / 64) (stOf data1) (q.take n2)) := hs'
      have HB4 : Hid (Blk w4 g (digv s' x1 0 (L + n)) 115) := hb4
      have HU4 : Hid (Upd (fun k => k = g) w w4) := HUC.out.trans hu4
      have HBY4 : Hid (Bytes w4 b o1 q) := HBY.out.upd hu4 hgb
      clear hs' hb4 hu4 HB1 HBY HUC
      go_wp2_with fail
      go_meet
      refine ⟨data1 ++ q.take n2, q.drop n2, ⟨ad2, n1 - n2, c1 - n2, rfl, by rw [List.length_drop, HN1.out], by omega, by omega, fun hp => ⟨_, HAD2.out hp, HBY4.out.drop n2⟩⟩, ?_, ?_, .inr ?_, ?_, HU4.out⟩
      · rw [List.append_assoc, List.take_append_drop]; exact HCAT.out
      · exact DigC.whole HX1.out HD64.out (by rw [List.length_take]; have := HN1.out; omega) HS'.out HB4.out
      · rw [List.length_append, List.length_take]; have := HD64.out; have := HN1.out; omega
      · rw [List.length_drop]; have := HN1.out; have := HN2.out; omega
    · go_wp2_with fail
      go_meet
      exact ⟨data1, q, ⟨ad, n1, c1, rfl, HN1.out, hnc1, hc1, HPOS.out⟩, HCAT.out, HDIG.out, HOR.out, by have := HN1.out; omega, HUC.out⟩
  case rest =>
  clear HCAT HDIG HOR HUC HN1 HPOS hn1m hnc1 hc1
  obtain ⟨data1, q, ⟨ad, n1, c1, rfl, hn1, hnc1, hc1, hpos⟩, hcat, hdig, hor, hq64, hu⟩ := hcut
  have HCAT : Hid (data1 ++ q = data ++ p) := hcat
  have HDIG : Hid (DigC wc g data1 (L + n)) := hdig
  have HOR : Hid (q = [] ∨ data1.length % 64 = 0) := hor
  have HUC : Hid (Upd (fun k => k = g) w wc) := hu
  have HN1 : Hid (n1 = q.length) := hn1
  have HPOS : Hid (0 < n1 → ∃ o, ad = ⟨b, o, none⟩ ∧ Bytes wc b o q) := hpos
  have hn1m : n1 < 64 := by omega
  have HLL : Hid (L + n = (data ++ p).length) := by show _ = _; rw [List.length_append, HL.out, HN.out]
  clear hcat hdig hor hu hn1 hpos hq64
  by_cases h0q : 0 < n1
  · obtain ⟨o1, rfl, hby⟩ := HPOS.out h0q
    have HBY : Hid (Bytes wc b o1 q) := hby
    have hd64 : data1.length % 64 = 0 := by
      rcases HOR.out with h | h
      · have := HN1.out; rw [h] at this; simp at this; omega
      · exact h
    have HD64 : Hid (data1.length % 64 = 0) := hd64
    obtain ⟨x1, hx1, hw1, hb1⟩ := HDIG.out
    have hbl : b < wc.heap.size := World.block_lt_of_cell? _ _ (hby 0 (by have := HN1.out; omega))
    have HW1 : Hid (x1.take (data1.length % 64) = waits data1) := hw1
    rw [hd64] at hb1
    have HX1 : Hid (x1.length = 64) := hx1
    have HB1 : Hid (Blk wc g (digv (stOf data1) x1 0 (L + n)) 115) := hb1
    clear hx1 hw1 hb1 hd64 hby HPOS HDIG HOR
    go_wp2_with (first | (refine wpList_copyT rfl (.tmp 80) (.tmp 81) rfl g 5 64 64 _ (digv (stOf data1) x1 0 (L + n)) 115 q rfl rfl (.at_ b o1 n1 c1 q HN1.out hnc1 (by unfold maxLen; omega) HBY.out hbl) HB1.out (by rw [digv_size _ _ _ _ HX1.out]; omega) n1 (by have := HN1.out; omega) ?_))
    intro w4 hb4 hu4
    rw [List.take_of_length_le (by have := HN1.out; omega), show (5 : Nat) = 5 + 0 by rfl, digv_splice _ _ _ _ _ _ HX1.out (by have := HN1.out; omega)] at hb4
    have HX4 : Hid ((x1.take 0 ++ q ++ x1.drop (0 + q.length)).length = 64) := spliced_length x1 q 0 HX1.out (by have := HN1.out; omega)
    generalize hx4 : x1.take 0 ++ q ++ x1.drop (0 + q.length) = x4 at *
    have HXE : Hid (x4 = x1.take 0 ++ q ++ x1.drop (0 + q.length)) := hx4.symm
    have HB4 : Hid (Blk w4 g (digv (stOf data1) x4 0 (L + n)) 115) := hb4
    have HU4 : Hid (Upd (fun k => k = g) w w4) := HUC.out.trans hu4
    clear hx4 hb4 hu4 HB1 HUC HBY
    obtain ⟨v69, c69⟩ := HB4.out.some (j := 69) (by rw [digv_size _ _ _ _ HX4.out]; omega)
    have f69 := HB4.out.free 69
    go_wp2_with fail
    have hu5 : Upd (fun k => k = g) w4 (w4.setCell ⟨g, 69, none⟩ (.int .i64 n1)) := Upd.setCell (S := fun k => k = g) (Upd.refl _ w4) (p := ⟨g, 69, none⟩) (fun _ => rfl) _
    go_ret2
    refine ⟨rfl, ?_, HU4.out.trans hu5⟩
    show DigC _ _ _ _
    rw [← HLL.out, ← HCAT.out]
    have hm := HD64.out
    refine DigC.few (x := x1) (x' := x4) HX1.out HW1.out (by have := HN1.out; omega) (by rw [hm]; exact HXE.out) ?_
    rw [hm]
    have := HB4.out.set 69 (.int .i64 ((0 + q.length : Nat) : Int))
    rw [digv_set_nx _ _ _ _ _ HX4.out] at this
    rw [Nat.zero_add] at this ⊢
    rw [← HN1.out] at this ⊢
    exact this
  · obtain rfl : n1 = 0 := by omega
    go_wp2_with fail
    go_ret2
    refine ⟨rfl, ?_, HUC.out⟩
    have hq : q = [] := List.eq_nil_of_length_eq_zero HN1.out.symm
    show DigC _ _ _ _
    rw [← HLL.out, ← HCAT.out, hq, List.append_nil]; exact HDIG.out
end Go.Proofs.YtpkipinamlbdoaaGreatDoor

/-
  The walk of the library's Message.Decode: the attributes of bytes that are a message. Conditions: they are one; at most a hundred thousand bytes.
-/
import Derived.Test.YtpkipinamlbdoaaGreatDoorIA
import Derived.Test.YtpkipinamlbdoaaGreatDoorIC
import Derived.Test.YtpkipinamlbdoaaGreatDoorWO
import Derived.Test.YtpkipinamlbdoaaGreatDoorMC
import Derived.Lib.Hide
import Derived.Deep.CutRange
import Derived.Deep.DeepCutAuto
namespace Go.Proofs.YtpkipinamlbdoaaGreatDoor
open Go Go.RowKit

/-- The cells of a row of attributes as the library keeps them; the bytes start at place o. -/
inductive IRow (gr : Nat) : Nat → List Value → List (Nat × List UInt8) → Prop
  | nil (o : Nat) : IRow gr o [] []
  | cons (o ty : Nat) (x : List UInt8) (A : Option Addr) (c : Nat) (xs : List Value) (ats : List (Nat × List UInt8)) : (0 < x.length → A = some ⟨gr, o + 4, none⟩) → x.length ≤ c → c ≤ maxLen → IRow gr (o + allOf x.length) xs ats →
      IRow gr o (.int .u16 (compat ty : Nat) :: .int .u16 (x.length : Nat) :: .slice A x.length c :: xs) ((ty, x) :: ats)
/-- How far so many attributes reach. -/
def reach : List (Nat × List UInt8) → Nat
  | [] => 0
  | (_, x) :: r => allOf x.length + reach r
theorem reach_snoc (ats : List (Nat × List UInt8)) (ty : Nat) (x : List UInt8) : reach (ats ++ [(ty, x)]) = reach ats + allOf x.length := by
  induction ats with
  | nil => simp [reach]
  | cons a r ih => simp [reach, ih, Nat.add_assoc]
theorem IRow.snoc {gr : Nat} {xs : List Value} {ats : List (Nat × List UInt8)} : ∀ {o : Nat}, IRow gr o xs ats → ∀ (ty n : Nat) (x : List UInt8) (A : Option Addr) (c : Nat), n = x.length → (0 < n → A = some ⟨gr, o + reach ats + 4, none⟩) → n ≤ c → c ≤ maxLen →
    IRow gr o (xs ++ [.int .u16 (compat ty : Nat), .int .u16 (n : Nat), .slice A n c]) (ats ++ [(ty, x)]) := by
  intro o h
  induction h with
  | nil o =>
    intro ty n x A c hn hA h1 h2
    subst hn
    exact .cons o ty x A c [] [] (by simpa [reach] using hA) h1 h2 (.nil _)
  | cons o ty' x' A' c' xs' ats' hA' h1' h2' _ ih =>
    intro ty n x A c hn hA h1 h2
    exact .cons o ty' x' A' c' _ _ hA' h1' h2' (ih ty n x A c hn (by intro h; rw [hA h]; simp [reach, Nat.add_assoc]) h1 h2)
theorem IRow.length {gr o : Nat} {xs : List Value} {ats : List (Nat × List UInt8)} (h : IRow gr o xs ats) : xs.length = ats.length * 3 := by
  induction h with
  | nil => rfl
  | cons o ty' x' A' c' xs' ats' _ _ _ _ ih => simp [ih]; omega
theorem be32_num (x0 x1 x2 x3 : UInt8) (h : beN [x0, x1, x2, x3] = 554869826) : (I32 (be32 x0 x1 x2 x3) != (554869826 : Int)) = false := by
  rw [bne_eq_false_iff_eq, I32_def]
  have := beN_4 x0 x1 x2 x3
  omega
theorem list2 (l : List UInt8) (h : l.length = 2) : ∃ x y, l = [x, y] := by
  match l, h with
  | [x, y], _ => exact ⟨x, y, rfl⟩
theorem list4 (l : List UInt8) (h : l.length = 4) : ∃ x y z t, l = [x, y, z, t] := by
  match l, h with
  | [x, y, z, t], _ => exact ⟨x, y, z, t, rfl⟩
theorem run_from3 (T : TypeId) (hT : T = 22) (b o n cap a : Nat) (x : Int) (hx : x = a) (h : a ≤ n) (hc : n ≤ cap) :
    ∃ o', (0 < n - a → o' = o + a) ∧ ∀ w : World, (Instr.slice T (.slice (some ⟨b, o, none⟩) n cap) (some (.int .i64 x)) none none).run Tryz.prog w = .ok (.slice (some ⟨b, o', none⟩) (n - a) (cap - a)) w := by
  subst hx; subst hT
  have h1 : (a : Int) ≤ n := by omega
  by_cases hne : cap = a
  · exact ⟨o, fun hp => by omega, fun w => by simp [go_sem, h1, hne]⟩
  · exact ⟨o + a, fun _ => rfl, fun w => by simp [go_sem, h1, hne]⟩
/-- Uint16 of two bytes of a message, wherever they lie. -/
theorem u16_at (l : List UInt8) (gr p c' : Nat) (w : World) (hl : Bytes w gr 0 l) (hp : p + 2 ≤ l.length) :
    Calls Tryz.prog 51 #[.agg #[], .slice (some ⟨gr, p, none⟩) 2 c'] w fun e w' => e = .returned (.int .u16 (num l p 2 : Nat)) ∧ Fresh w w' := by
  obtain ⟨x, y, hxy⟩ := list2 ((l.drop p).take 2) (by simp; omega)
  have hb := (hl.drop p).take 2
  rw [hxy, Nat.zero_add] at hb
  have h0 := hb 0 (by simp)
  have h1 := hb 1 (by simp)
  have := u16_any x y gr p 2 c' w (Nat.le_refl _) h0 h1
  unfold num; rw [hxy]; exact this
theorem u32_at (l : List UInt8) (gr p : Nat) (hp : p + 4 ≤ l.length) :
    ∃ x : UInt32, x.toNat = num l p 4 ∧ ∀ (w : World) (c' : Nat), Bytes w gr 0 l → Calls Tryz.prog 31 #[.agg #[], .slice (some ⟨gr, p, none⟩) 4 c'] w fun e w' => e = .returned (.int .u32 (I32 x)) ∧ Fresh w w' := by
  obtain ⟨x, y, z, t, hxy⟩ := list4 ((l.drop p).take 4) (by simp; omega)
  refine ⟨be32 x y z t, by unfold num; rw [hxy, beN_4], fun w c' hl => ?_⟩
  have hb := (hl.drop p).take 4
  rw [hxy, Nat.zero_add] at hb
  have h0 := hb 0 (by simp)
  have h1 := hb 1 (by simp)
  have h2 := hb 2 (by simp)
  have h3 := hb 3 (by simp)
  exact u32_any x y z t gr p 4 c' w (Nat.le_refl _) h0 h1 h2 h3
/-- The cells of a message that matter. -/
def MCur (cur : Array Value) (S R : Value) : Prop := cur.size = 18 ∧ cur[15]? = some S ∧ cur[16]? = some R ∧ cur[17]? = some (.bool false)
theorem MCur.set {cur : Array Value} {S R : Value} (h : MCur cur S R) (i : Nat) (hi : i < 15) (v : Value) : MCur (cur.setIfInBounds i v) S R := by
  obtain ⟨h1, h2, h3, h4⟩ := h
  exact ⟨by simp [h1], by rw [Array.getElem?_setIfInBounds_ne (by omega)]; exact h2, by rw [Array.getElem?_setIfInBounds_ne (by omega)]; exact h3, by rw [Array.getElem?_setIfInBounds_ne (by omega)]; exact h4⟩
theorem MCur.attrs {cur : Array Value} {S R : Value} (h : MCur cur S R) (v : Value) : MCur (cur.setIfInBounds 15 v) v R := by
  obtain ⟨h1, h2, h3, h4⟩ := h
  exact ⟨by simp [h1], by rw [Array.getElem?_setIfInBounds_self]; simp [h1], by rw [Array.getElem?_setIfInBounds_ne (by omega)]; exact h3, by rw [Array.getElem?_setIfInBounds_ne (by omega)]; exact h4⟩
theorem splice_get_high {L cs : List Value} {off j : Nat} (h : off + cs.length ≤ L.length) (hj : off + cs.length ≤ j) : (splice L off cs)[j]? = L[j]? := by
  unfold splice
  have e : (L.take off).length = off := by simp; omega
  rw [List.getElem?_append_right (by omega), e, List.getElem?_append_right (by omega), List.getElem?_drop]
  congr 1; omega
theorem splice_get_lo {L cs : List Value} {off j : Nat} (h : off + cs.length ≤ L.length) (hj : j < off) : (splice L off cs)[j]? = L[j]? := by
  unfold splice
  rw [List.getElem?_append_left (by simp; omega), List.getElem?_take, if_pos hj]
theorem MCur.tid {cur : Array Value} {S R : Value} (h : MCur cur S R) (q : List UInt8) (hq : q.length = 12) : MCur (splice cur.toList 3 (bv q)).toArray S R ∧ ((splice cur.toList 3 (bv q)).toArray)[2]? = cur[2]? := by
  obtain ⟨h1, h2, h3, h4⟩ := h
  have hl : 3 + (bv q).length ≤ cur.toList.length := by have := Array.length_toList (xs := cur); rw [bv_length]; omega
  refine ⟨⟨?_, ?_, ?_, ?_⟩, ?_⟩
  · rw [List.size_toArray, length_splice _ _ _ hl, Array.length_toList, h1]
  · rw [List.getElem?_toArray, splice_get_high hl (by rw [bv_length]; omega), Array.getElem?_toList]; exact h2
  · rw [List.getElem?_toArray, splice_get_high hl (by rw [bv_length]; omega), Array.getElem?_toList]; exact h3
  · rw [List.getElem?_toArray, splice_get_high hl (by rw [bv_length]; omega), Array.getElem?_toList]; exact h4
  · rw [List.getElem?_toArray, splice_get_lo hl (by omega), Array.getElem?_toList]
/-- What Decode leaves. -/
def MsgAt (w : World) (gm gr base n c : Nat) (l : List UInt8) (ats : List (Nat × List UInt8)) : Prop :=
  ∃ (cur : Array Value) (S : Value) (xs : List Value), Blk w gm cur 65 ∧ cur.size = 18 ∧ cur[2]? = some (.int .u32 (num l 2 2 : Nat)) ∧ cur[15]? = some S ∧ cur[16]? = some (.slice (some ⟨gr, 0, none⟩) n c) ∧ w.ownsRow base 72 3 S ats.length xs ∧ IRow gr 20 xs ats
theorem reach_len (ats : List (Nat × List UInt8)) : ats.length * 4 ≤ reach ats := by
  induction ats with
  | nil => simp [reach]
  | cons a r ih => obtain ⟨ty, x⟩ := a; simp only [List.length_cons, reach]; have := allOf_ge x.length; omega
theorem run_mid (gr n c N : Nat) (h : 20 + N ≤ n) (hc : n ≤ c) :
    ∃ o', (0 < N → o' = 20) ∧ ∀ w : World, (Instr.slice 22 (.slice (some ⟨gr, 0, none⟩) n c) (some (.int .i64 20)) (some (.int .i64 (20 + (N : Int)))) none).run Tryz.prog w = .ok (.slice (some ⟨gr, o', none⟩) N (c - 20)) w := by
  have h1 : ((20 : Int) + N).toNat = 20 + N := by omega
  have h2 : (20 : Int) + N ≤ (c : Int) := by omega
  have h4 : (20 : Int) ≤ 20 + (N : Int) := by omega
  by_cases hne : c = 20
  · obtain rfl : N = 0 := by omega
    subst hne
    exact ⟨0, fun h => by omega, fun w => by simp [go_sem]⟩
  · exact ⟨20, fun _ => rfl, fun w => by simp [go_sem, h1, h2, h4, hne]⟩
/-- The head of a round. -/
def MInv (w : World) (gm gr n c N : Nat) (p : List UInt8) (v8 v9 v10 v11 : Value) (wr : World) : Prop :=
  ∃ (q : List UInt8) (done : List (Nat × List UInt8)) (s : Value) (xs : List Value) (cur : Array Value) (o' nq cap : Nat) (b10 b11 : Bool), v9 = .slice (some ⟨gr, o', none⟩) nq cap ∧ nq = q.length ∧ nq ≤ cap ∧ cap ≤ maxLen ∧ (0 < nq → o' = 20 + reach done ∧ Bytes wr gr o' q) ∧
    v8 = .int .i64 (reach done : Nat) ∧ reach done + nq = N ∧ v10 = .bool b10 ∧ v11 = .bool b11 ∧ Blk wr gm cur 65 ∧ MCur cur s (.slice (some ⟨gr, 0, none⟩) n c) ∧ cur[2]? = some (.int .u32 (N : Nat)) ∧ IRow gr 20 xs done ∧ wr.ownsRow w.heap.size 72 3 s done.length xs ∧ Left p done q ∧ Upd (fun k => k = gm) w wr
set_option maxRecDepth 100000 in
set_option maxHeartbeats 8000000 in
theorem mdecode_any (gm gr n c : Nat) (cur : Array Value) (l : List UInt8) (ats : List (Nat × List UInt8)) (w : World) (hb : Blk w gm cur 65) (hs : cur.size = 18) (h15 : cur[15]? = some (.slice none 0 0)) (h16 : cur[16]? = some (.slice (some ⟨gr, 0, none⟩) n c)) (h17 : cur[17]? = some (.bool false))
    (hl : Bytes w gr 0 l) (hn : n = l.length) (hnc : n ≤ c) (hcm : c ≤ maxLen) (hne : gr ≠ gm) (hlen : l.length ≤ 100000) (hdec : decodeL l = some ats) :
    Calls Tryz.prog 38 #[.pointer (some ⟨gm, 0, none⟩)] w fun e w' => e = .returned .nilIface ∧ MsgAt w' gm gr w.heap.size n c l ats ∧ Upd (fun k => k = gm) w w' := by
  have hd2 : ¬ (l.length < 20 ∨ num l 4 4 ≠ 554869826 ∨ l.length < 20 + num l 2 2) := by
    intro h; unfold decodeL at hdec; rw [if_pos h] at hdec; cases hdec
  have hats : attrsL ((l.drop 20).take (num l 2 2)) = some ats := by
    unfold decodeL at hdec; rw [if_neg hd2] at hdec; exact hdec
  have h20 : 20 ≤ l.length := by omega
  have hck : num l 4 4 = 554869826 := by omega
  have hN : 20 + num l 2 2 ≤ l.length := by omega
  have hN2 : num l 2 2 < 65536 := by
    have := beN_lt ((l.drop 2).take 2)
    have e : ((l.drop 2).take 2).length = 2 := by simp; omega
    rw [e] at this; exact this
  have HL := Lib.hid hl
  have HB := Lib.hid hb
  have HS := Lib.hid hs
  have H15 := Lib.hid h15
  have H16 := Lib.hid h16
  have H17 := Lib.hid h17
  have HATS := Lib.hid hats
  obtain rfl := hn
  have hcm2 : c ≤ 9223372036854775807 := by unfold maxLen at hcm; omega
  have hgml : gm < w.heap.size := hb.lt
  have c16 : w.cell? ⟨gm, 16, none⟩ = some (.slice (some ⟨gr, 0, none⟩) l.length c) := by rw [hb.cell]; exact h16
  have hu16a : ∀ w', Fresh w w' → ∀ c', Calls Tryz.prog 51 #[.agg #[], .slice (some ⟨gr, 0, none⟩) 2 c'] w' fun e w'' => e = .returned (.int .u16 (num l 0 2 : Nat)) ∧ Fresh w' w'' := fun w' hu c' => u16_at l gr 0 c' w' (HL.out.upd hu (fun f => f)) (by omega)
  have hu16b : ∀ w', Fresh w w' → ∀ c', Calls Tryz.prog 51 #[.agg #[], .slice (some ⟨gr, 2, none⟩) 2 c'] w' fun e w'' => e = .returned (.int .u16 (num l 2 2 : Nat)) ∧ Fresh w' w'' := fun w' hu c' => u16_at l gr 2 c' w' (HL.out.upd hu (fun f => f)) (by omega)
  obtain ⟨x4, hx4, hu32⟩ := u32_at l gr 4 (by omega)
  have HX4 := Lib.hid hx4
  have HA := Lib.hid hu16a
  have HBB := Lib.hid hu16b
  have HC := Lib.hid hu32
  have HCK := Lib.hid hck
  have hld := load77
  have i2 : (2 : Int) ≤ (c : Int) := by omega
  have i4 : (4 : Int) ≤ (c : Int) := by omega
  have i8 : (8 : Int) ≤ (c : Int) := by omega
  have i20 : (20 : Int) ≤ (c : Int) := by omega
  have e0 : ¬ c = 0 := by omega
  have hwN : IntKind.i64.wrap (num l 2 2 : Int) = (num l 2 2 : Int) := by rw [IntKind.wrap_i64]; omega
  have e2 : ¬ c = 2 := by omega
  have e4 : ¬ c = 4 := by omega
  have e8 : ¬ c = 8 := by omega
  clear hu16a hu16b hu32 hx4 hd2 hats hdec hl hb hs h15 h16 h17 hck
  have hn0 : num l 0 2 < 65536 := by
    have := beN_lt ((l.drop 0).take 2)
    have e : ((l.drop 0).take 2).length = 2 := by simp; omega
    rw [e] at this; exact this
  generalize hNN : num l 2 2 = N at *
  have HNN := Lib.hid hNN
  clear hNN
  generalize num l 0 2 = N0 at *
  generalize num l 4 4 = N4 at *
  go_enter Tryz.func38, Tryz.ntmps38
  go_wp2_with fail
  go_region_held3 (fun _ => True) (exact True.intro) (first | (go_at_call 51; refine (HA.out _ (Upd.refl _ w).drew _).mono ?_; rintro e w1 ⟨rfl, hu1⟩))
  have HU1 : Hid (Fresh w w1) := (Upd.refl _ w).drew.fresh hu1
  clear hu1 c16
  go_wp2_with fail
  go_region_held3 (fun _ => True) (exact True.intro) (first | (go_at_call 51; refine (HBB.out _ HU1.out.drew _).mono ?_; rintro e w2 ⟨rfl, hu2⟩))
  have HU2 : Hid (Fresh w w2) := HU1.out.drew.fresh hu2
  clear hu2 HU1
  go_wp2_with fail
  go_region_held3 (fun _ => True) (exact True.intro) (first | (go_at_call 31; refine (HC.out w2.drew _ (HL.out.upd HU2.out.drew (fun f => f))).mono ?_; rintro e w3 ⟨rfl, hu3⟩))
  have HU3 : Hid (Fresh w w3) := HU2.out.drew.fresh hu3
  have hck : (I32 x4 != (554869826 : Int)) = false := by
    rw [bne_eq_false_iff_eq, I32_def, HX4.out, HCK.out]; rfl
  have HB3 := Lib.hid (HB.out.upd HU3.out (fun f => f))
  have HL3 := Lib.hid (HL.out.upd HU3.out (fun f => f))
  have hz3 := HU3.out.size
  clear hu3 HU2 HC HX4 HCK HA HBB HB
  go_wp2_with fail
  refine (readv_any N0 gm cur 65 w3 HB3.out (by rw [HS.out]; omega)).mono ?_
  rintro e w4 ⟨rfl, v0, v1, hb4, hu4⟩
  have HB4 := Lib.hid hb4
  have HU4 : Hid (Upd (fun k => k = gm) w w4) := (HU3.out.mono (fun _ _ f => f.elim)).trans hu4
  have HL4 := Lib.hid (HL3.out.upd hu4 hne)
  clear hb4 hu4 HU3 HB3 HL3
  have HM4 : Hid (MCur ((cur.setIfInBounds 1 (.int .u8 v1)).setIfInBounds 0 (.int .u16 v0)) (.slice none 0 0) (.slice (some ⟨gr, 0, none⟩) l.length c)) := (MCur.set (MCur.set ⟨HS.out, H15.out, H16.out, H17.out⟩ 1 (by omega) _) 0 (by omega) _)
  generalize (cur.setIfInBounds 1 (.int .u8 v1)).setIfInBounds 0 (.int .u16 v0) = cur4 at *
  clear HS H15 H16 H17
  obtain ⟨q2, c2⟩ := HB4.out.some (j := 2) (by have := HM4.out.1; omega)
  have f2 := HB4.out.free 2
  go_wp2_with fail
  have HB5 : Hid (Blk (w4.setCell ⟨gm, 2, none⟩ (.int .u32 N)) gm (cur4.setIfInBounds 2 (.int .u32 N)) 65) := HB4.out.set 2 _
  have hu5 : Upd (fun k => k = gm) w4 (w4.setCell ⟨gm, 2, none⟩ (.int .u32 N)) := Upd.setCell (S := fun k => k = gm) (Upd.refl _ w4) (p := ⟨gm, 2, none⟩) (fun _ => rfl) _
  have HU5 : Hid (Upd (fun k => k = gm) w (w4.setCell ⟨gm, 2, none⟩ (.int .u32 N))) := HU4.out.trans hu5
  have HL5 := Lib.hid (HL4.out.upd hu5 hne)
  have HM5 : Hid (MCur (cur4.setIfInBounds 2 (.int .u32 N)) (.slice none 0 0) (.slice (some ⟨gr, 0, none⟩) l.length c)) := MCur.set HM4.out 2 (by omega) _
  have HN5 : Hid ((cur4.setIfInBounds 2 (.int .u32 N))[2]? = some (.int .u32 (N : Nat))) := by show _ = _; rw [Array.getElem?_setIfInBounds_self]; simp [HM4.out.1]
  clear hu5 HB4 HU4 HL4 HM4 c2 f2
  generalize w4.setCell ⟨gm, 2, none⟩ (.int .u32 N) = w5 at *
  generalize cur4.setIfInBounds 2 (.int .u32 N) = cur5 at *
  obtain ⟨q12, hq12⟩ : ∃ q, q = (l.drop 8).take 12 := ⟨_, rfl⟩
  have HQ12 : Hid (q12.length = 12) := by show _ = _; rw [hq12]; simp; omega
  have HR5 : Hid (Rd w5.drew (.slice (some ⟨gr, 8, none⟩) 12 (c - 8)) q12) := by
    have hb := (HL5.out.drop 8).take 12
    rw [← hq12, Nat.zero_add] at hb
    exact .at_ gr 8 12 (c - 8) q12 HQ12.out.symm (by omega) (by unfold maxLen at hcm ⊢; omega) (hb.upd ((Upd.refl (fun _ => False) w5).drew) (fun f => f)) (World.block_lt_of_cell? _ _ (HL5.out 0 (by omega)))
  clear hq12
  go_region_law (first | (refine step_copyT rfl (.tmp 67) (.tmp 69) rfl gm 3 12 12 _ cur5 65 q12 rfl rfl HR5.out (HB5.out.upd ((Upd.refl (fun _ => False) w5).drew) (fun f => f)) (by have := HM5.out.1; omega) 12 (by have := HQ12.out; omega) ?_; intro w6 hb6 hu6))
  rw [List.take_of_length_le (by have := HQ12.out; omega)] at hb6
  have HB6 := Lib.hid hb6
  have HU6 : Hid (Upd (fun k => k = gm) w w6) := (HU5.out.drew).trans hu6
  have HL6 := Lib.hid ((HL5.out.upd ((Upd.refl (fun _ => False) w5).drew) (fun f => f)).upd hu6 hne)
  have ht6 := HM5.out.tid q12 HQ12.out
  have HM6 := Lib.hid ht6.1
  have HN6 := Lib.hid (ht6.2.trans HN5.out)
  clear hb6 hu6 ht6 HB5 HU5 HL5 HM5 HN5 HR5 HQ12
  generalize (splice cur5.toList 3 (bv q12)).toArray = cur6 at *
  have c15 : w6.cell? ⟨gm, 15, none⟩ = some (.slice none 0 0) := by rw [HB6.out.cell]; exact HM6.out.2.1
  have f15 := HB6.out.free 15
  obtain ⟨o', ho', hsl⟩ := run_mid gr l.length c N hN hnc
  have HO' := Lib.hid ho'
  clear ho'
  go_wp2_with fail
  have HB7 : Hid (Blk (w6.setCell ⟨gm, 15, none⟩ (.slice none 0 0)) gm (cur6.setIfInBounds 15 (.slice none 0 0)) 65) := HB6.out.set 15 _
  have hu7 : Upd (fun k => k = gm) w6 (w6.setCell ⟨gm, 15, none⟩ (.slice none 0 0)) := Upd.setCell (S := fun k => k = gm) (Upd.refl _ w6) (p := ⟨gm, 15, none⟩) (fun _ => rfl) _
  have HU7 : Hid (Upd (fun k => k = gm) w (w6.setCell ⟨gm, 15, none⟩ (.slice none 0 0))) := HU6.out.trans hu7
  have HL7 := Lib.hid (HL6.out.upd hu7 hne)
  have HM7 : Hid (MCur (cur6.setIfInBounds 15 (.slice none 0 0)) (.slice none 0 0) (.slice (some ⟨gr, 0, none⟩) l.length c)) := MCur.attrs HM6.out _
  have HN7 : Hid ((cur6.setIfInBounds 15 (.slice none 0 0))[2]? = some (.int .u32 (N : Nat))) := by show _ = _; rw [Array.getElem?_setIfInBounds_ne (by omega)]; exact HN6.out
  clear hu7 HB6 HU6 HL6 HM6 HN6 c15 f15 hsl
  generalize w6.setCell ⟨gm, 15, none⟩ (.slice none 0 0) = w7 at *
  generalize cur6.setIfInBounds 15 (.slice none 0 0) = cur7 at *
  have HBY : Hid (Bytes w7 gr 20 ((l.drop 20).take N)) := by
    have := (HL7.out.drop 20).take N; rwa [Nat.zero_add] at this
  have HPL : Hid (((l.drop 20).take N).length = N) := by show _ = _; simp; omega
  generalize (l.drop 20).take N = p at *
  go_loopw [8, 9, 10, 11] (fun v8 v9 v10 v11 wr => MInv w gm gr l.length c N p v8 v9 v10 v11 wr) (fun _ v9 _ _ _ => match v9 with | .slice _ n _ => n | _ => 0)
  case atStart => exact ⟨p, [], .slice none 0 0, [], cur7, o', N, c - 20, false, false, rfl, HPL.out.symm, by omega, by unfold maxLen at hcm ⊢; omega, fun h => ⟨by rw [HO'.out h]; simp [reach], by rw [HO'.out h]; exact HBY.out⟩, by simp [reach], by simp [reach], rfl, rfl, HB7.out, HM7.out, HN7.out, .nil _, World.ownsRow_nil _ _ _ _, Left.start p, HU7.out⟩
  case round =>
    obtain ⟨q, done, s, xs, cur, o, nq, cap, b10, b11, rfl, hnq, hqc, hcap, hpos, rfl, hrn, rfl, rfl, hbm, hmc, hc2, hrow, hown, hleft, hu⟩ := hrel
    clear HB7 HM7 HN7 HU7 HL7 HBY HPL HO'
    have HBM := Lib.hid hbm
    have HMC := Lib.hid hmc
    have HC2 := Lib.hid hc2
    have HROW := Lib.hid hrow
    have HOWN := Lib.hid hown
    have HLEFT := Lib.hid hleft
    have HUW := Lib.hid hu
    have HNQ := Lib.hid hnq
    have HPOS := Lib.hid hpos
    clear hbm hmc hc2 hrow hown hleft hu hnq hpos
    have hcap2 : cap ≤ 9223372036854775807 := by unfold maxLen at hcap; omega
    by_cases hq0 : 0 < nq
    · obtain ⟨ho, hby⟩ := HPOS.out hq0
      have HBY := Lib.hid hby
      have HOO := Lib.hid ho
      have hq4 : 4 ≤ nq := by
        rcases Nat.lt_or_ge nq 4 with h | h
        · have := Left.short HLEFT.out (by have := HNQ.out; omega) (by have := HNQ.out; omega)
          rw [HATS.out] at this; cases this
        · exact h
      have hwide : allOf (num q 2 2) ≤ nq := by
        rcases Nat.lt_or_ge q.length (allOf (num q 2 2)) with h | h
        · have := Left.wide HLEFT.out (by have := HNQ.out; omega) h
          rw [HATS.out] at this; cases this
        · have := HNQ.out; omega
      have HNX := Lib.hid (Left.step HLEFT.out (by have := HNQ.out; omega) (by have := HNQ.out; omega))
      obtain ⟨x0, x1, x2, x3, hx⟩ := list4 (q.take 4) (by have := HNQ.out; simp; omega)
      have hb4 := HBY.out.take 4
      rw [hx] at hb4
      have e02 : num q 0 2 = beN [x0, x1] := by
        unfold num
        have : (q.drop 0).take 2 = [x0, x1] := by
          have := congrArg (List.take 2) hx
          rw [List.take_take] at this; simpa using this
        rw [this]
      have e22 : num q 2 2 = beN [x2, x3] := by
        unfold num
        have : (q.drop 2).take 2 = [x2, x3] := by
          have := congrArg (List.drop 2) hx
          rw [List.drop_take] at this; simpa using this
        rw [this]
      have z0 := hb4 0 (by simp)
      have z1 := hb4 1 (by simp)
      have z2 := hb4 2 (by simp)
      have z3 := hb4 3 (by simp)
      have hn2 : num q 2 2 < 65536 := by
        have := beN_lt ((q.drop 2).take 2)
        have e : ((q.drop 2).take 2).length = 2 := by have := HNQ.out; simp; omega
        rw [e] at this; exact this
      have HALL : Hid (allOf (num q 2 2) = 4 + (num q 2 2 + 3) / 4 * 4) := rfl
      have hval : ((q.drop 4).take (num q 2 2)).length = num q 2 2 := by
        have := HNQ.out; have := allOf_ge (num q 2 2); simp; omega
      have HVAL := Lib.hid hval
      have E02 := Lib.hid e02
      have E22 := Lib.hid e22
      clear hx hb4 ho hby HPOS hval e02 e22
      generalize num q 2 2 = n2 at *
      generalize num q 0 2 = ty at *
      have HWIDE : Hid (4 + (n2 + 3) / 4 * 4 ≤ nq) := by have := HALL.out; show _ ≤ _; omega
      clear hwide
      have hlt : (reach done : Int) < (N : Int) := by omega
      go_wp2_with fail
      refine md_reg23 x0 x1 x2 x3 gr o nq cap wr _ _ _ _ _ _ _ _ _ _ _ _ _ _ _ _ _ _ _ _ _ _ _ _ _ _ _ _ _ _ _ _ _ _ _ _ _ _ _ _ _ _ _ _ _ _ _ _ _ _ _ _ _ _ _ _ _ _ _ _ _ _ _ _ _ _ _ _ _ _ _ _ _ _ _ _ _ _ _ _ _ _ _ _ _ _ _ _ _ _ _ _ _ _ _ _ _ _ _ _ _ _ _ _ _ _ _ _ _ _ _ _ _ _ _ _ _ _ _ _ _ _ _ _ _ _ _ _ _ _ _ _ _ _ _ _ _ _ _ _ _ _ _ _ _ _ _ _ _ _ _ _ _ _ _ _ _ _ _ _ _ _ _ _ _ _ _ _ _ _ _ _ _ _ _ z0 z1 z2 z3 (by omega) hcap2 ?_
      intro v90 v91 v92 v93 v94 v95 v96 v97 v98 v99 ga wx HBA HGA HFA
      clear z0 z1 z2 z3 hlt
      rw [← E02.out, ← E22.out] at HBA
      clear E02 E22
      have HBMx := Lib.hid (HBM.out.upd HFA.out (fun f => f))
      have HOWNx := Lib.hid (owns_upd HOWN.out HFA.out (fun _ _ f => f) (Nat.le_refl _))
      have HBYx := Lib.hid (HBY.out.upd HFA.out (fun f => f))
      have HUX : Hid (Upd (fun k => k = gm) w wx) := HUW.out.fresh HFA.out
      have HSB : Hid (∀ k, s.ownBlock = some k → k ≠ ga) := fun k e => by have := (HOWN.out.lt k e).2; have := HGA.out; omega
      have HGMA : Hid (gm ≠ ga) := by have := HBM.out.lt; have := HGA.out; show _ ≠ _; omega
      have HGRA : Hid (gr ≠ ga) := by
        have hgrl : gr < wr.heap.size := World.block_lt_of_cell? _ _ (HBY.out 0 (by have := HNQ.out; omega))
        have := HGA.out; show _ ≠ _; omega
      have HSZ : Hid (w.heap.size ≤ wr.heap.size) := HUW.out.size
      clear HBM HOWN HBY HUW HFA
      have g0 : wx.cell? ⟨ga, 0, none⟩ = some (.int .u16 (compat ty : Nat)) := by rw [HBA.out.cell]; rfl
      have g1 : wx.cell? ⟨ga, 1, none⟩ = some (.int .u16 (n2 : Nat)) := by rw [HBA.out.cell]; rfl
      have g2 : wx.cell? ⟨ga, 2, none⟩ = some (.slice none 0 0) := by rw [HBA.out.cell]; rfl
      have gf := HBA.out.free 2
      obtain ⟨pq, hpq⟩ : ∃ pq, pq = (n2 + 3) / 4 * 4 := ⟨_, rfl⟩
      have HPQ := Lib.hid hpq
      have hpqn : n2 ≤ pq ∧ 4 + pq ≤ nq := by have := HWIDE.out; omega
      have HPAD : Hid (Calls Tryz.prog 26 #[.int .i64 n2] wx fun e w' => e = .returned (.int .i64 (pq : Nat)) ∧ wx = w') := by
        have := pad4_any n2 wx (by omega)
        rw [← hpq] at this; exact this
      obtain ⟨o4, ho4, hsl4⟩ := run_from3 22 rfl gr o nq cap 4 4 rfl hq4 hqc
      have HO4 := Lib.hid ho4
      obtain ⟨nq4, hnq4⟩ : ∃ m, m = nq - 4 := ⟨_, rfl⟩
      obtain ⟨cap4, hcap4⟩ : ∃ m, m = cap - 4 := ⟨_, rfl⟩
      rw [← hnq4, ← hcap4] at hsl4
      have hle4 : nq4 ≤ cap4 := by omega
      have hpq4 : pq ≤ nq4 := by omega
      obtain ⟨o5, ho5, hsl5⟩ := run_from3 22 rfl gr o4 nq4 cap4 pq pq rfl hpq4 hle4
      have HO5 := Lib.hid ho5
      have HNQ4 := Lib.hid hnq4
      have HCAP4 := Lib.hid hcap4
      have hn2c : (n2 : Int) ≤ (cap4 : Int) := by omega
      have hcap9 : cap4 ≤ 9223372036854775807 := by omega
      have HPB := Lib.hid hpqn
      have hrb : reach done ≤ 65536 := by omega
      have hn64 : nq4 ≤ 65536 := by omega
      clear hpq ho4 ho5 hnq4 hcap4 hpqn
      go_upto_region 33 with (first | (go_at_call 26; refine Calls.mono HPAD.out ?_; rintro e w9 ⟨rfl, rfl⟩))
      have HVB : Hid (Blk (wx.setCell ⟨ga, 2, none⟩ (.slice (some ⟨gr, o4, none⟩) n2 cap4)) ga #[.int .u16 (compat ty : Nat), .int .u16 (n2 : Nat), .slice (some ⟨gr, o4, none⟩) n2 cap4] 72) := HBA.out.set 2 _
      have hus : Upd (fun k => k = ga) wx (wx.setCell ⟨ga, 2, none⟩ (.slice (some ⟨gr, o4, none⟩) n2 cap4)) := Upd.setCell (S := fun k => k = ga) (Upd.refl _ wx) (p := ⟨ga, 2, none⟩) (fun _ => rfl) _
      have HBMy := Lib.hid (HBMx.out.upd hus HGMA.out)
      have HOWNy := Lib.hid (owns_upd HOWNx.out hus (fun k e => HSB.out k e) (Nat.le_refl _))
      have HBYy := Lib.hid (HBYx.out.upd hus HGRA.out)
      have HUY : Hid (Upd (fun k => k = gm) w (wx.setCell ⟨ga, 2, none⟩ (.slice (some ⟨gr, o4, none⟩) n2 cap4))) := HUX.out.step hus (fun k hk e => by have := HGA.out; have := HSZ.out; omega)
      clear hus HBA HBMx HOWNx HBYx HUX g0 g1 g2 gf hsl4 hsl5 HPAD
      generalize wx.setCell ⟨ga, 2, none⟩ (.slice (some ⟨gr, o4, none⟩) n2 cap4) = wy at *
      have g0 : wy.cell? ⟨ga, 0, none⟩ = some (.int .u16 (compat ty : Nat)) := by rw [HVB.out.cell]; rfl
      have c17 : wy.cell? ⟨gm, 17, none⟩ = some (.bool false) := by rw [HBMy.out.cell]; exact HMC.out.2.2.2
      go_upto_region 36 with fail
      generalize (((compat ty : Nat) : Int) == 8) = bMI
      generalize (((compat ty : Nat) : Int) == 28) = b256
      generalize (((compat ty : Nat) : Int) == 32808) = bFP
      go_cut [18] (fun s18 wz => (∃ b, s18 = .bool b) ∧ wy = wz)
      case first =>
        cases b10 <;> cases b256 <;> cases bFP <;> (go_wp2_with fail; go_meet; exact ⟨⟨_, rfl⟩, rfl⟩)
      case rest =>
      obtain ⟨⟨b18, rfl⟩, rfl⟩ := hcut
      go_upto_region 37 with fail
      go_cut [19] (fun s19 wz => (∃ b, s19 = .bool b) ∧ wy = wz)
      case first =>
        cases b10 <;> cases b11 <;> cases bFP <;> (go_wp2_with fail; go_meet; exact ⟨⟨_, rfl⟩, rfl⟩)
      case rest =>
      obtain ⟨⟨b19, rfl⟩, rfl⟩ := hcut
      go_upto_region 38 with fail
      go_cut [20] (fun s20 wz => (∃ b, s20 = .bool b) ∧ wy = wz)
      case first =>
        cases b18 <;> cases b19 <;> (go_wp2_with fail; go_meet; exact ⟨⟨_, rfl⟩, rfl⟩)
      case rest =>
      obtain ⟨⟨b20, rfl⟩, rfl⟩ := hcut
      go_wp2_with fail
      refine md_reg40 gm ga w.heap.size done.length cur 65 s xs _ _ (.slice (some ⟨gr, o4, none⟩) n2 cap4) rfl wy _ _ _ _ _ _ _ _ _ _ _ _ _ _ _ _ _ _ _ _ _ _ _ _ _ _ _ _ _ _ _ _ _ _ _ _ _ _ _ _ _ _ _ _ _ _ _ _ _ _ _ _ _ _ _ _ _ _ _ _ _ _ _ _ _ _ _ _ _ _ _ _ _ _ _ _ _ _ _ _ _ _ _ _ _ _ _ _ _ _ _ _ _ _ _ _ _ _ _ _ _ _ _ _ _ _ _ _ _ _ _ _ _ _ _ _ _ _ _ _ _ _ _ _ _ _ _ _ _ _ _ _ _ _ _ _ _ _ _ _ _ _ _ _ _ _ _ _ _ _ _ _ _ _ _ _ _ _ _ _ _ _ _ _ _ _ _ _ _ _ _ _ _ _ HBMy.out HMC.out.1 HMC.out.2.1 HVB.out HOWNy.out (by have := reach_len done; omega) (Nat.le_trans HSZ.out (by have := HUY.out.size; have := HVB.out.lt; have := HGA.out; omega)) hgml ?_
      intro v163 v164 v165 v166 v167 v168 v169 v170 v171 v172 s' wz HBZ HOZ HUZ
      have hgrw : gr < w.heap.size := World.block_lt_of_cell? _ _ (HL.out 0 (by omega))
      have hsk : ∀ k, s.ownBlock = some k → w.heap.size ≤ k := fun k e => (HOWNy.out.lt k e).1
      have hbyz : Bytes wz gr o q := HBYy.out.upd HUZ.out (fun h => by rcases h with h | h; exact hne h; have := hsk gr h; omega)
      have huz : Upd (fun k => k = gm) w wz := HUY.out.step HUZ.out (fun k hk h => by rcases h with h | h; exact h; have := hsk k h; omega)
      have hpb := HPB.out
      have hnx : ∀ b10' b11', MInv w gm gr l.length c N p (.int .i64 ((reach done : Nat) + 4 + (pq : Nat))) (.slice (some ⟨gr, o5, none⟩) (nq4 - pq) (cap4 - pq)) (.bool b10') (.bool b11') wz := by
        intro b10' b11'
        have hx := HVAL.out
        have hall : allOf n2 = 4 + pq := by rw [HALL.out, HPQ.out]
        have hr : reach (done ++ [(ty, (q.drop 4).take n2)]) = reach done + (4 + pq) := by rw [reach_snoc, hx, hall]
        have h4 := HNQ4.out
        have hc4 := HCAP4.out
        have hq := HNQ.out
        have hoo := HOO.out
        refine ⟨q.drop (allOf n2), done ++ [(ty, (q.drop 4).take n2)], s', xs ++ [.int .u16 (compat ty : Nat), .int .u16 (n2 : Nat), .slice (some ⟨gr, o4, none⟩) n2 cap4], cur.setIfInBounds 15 s', o5, nq4 - pq, cap4 - pq, b10', b11', rfl, by rw [List.length_drop, hall]; omega, by omega, by omega, fun hp => ?_, ?_, by rw [hr]; omega, rfl, rfl, HBZ.out, MCur.attrs HMC.out _, by rw [Array.getElem?_setIfInBounds_ne (by omega)]; exact HC2.out, ?_, ?_, HNX.out, huz⟩
        · have e4 := HO4.out (by omega)
          have e5 := HO5.out hp
          refine ⟨by rw [hr]; omega, ?_⟩
          have := hbyz.drop (allOf n2)
          rw [hall] at this ⊢
          rw [show o5 = o + (4 + pq) by omega]; exact this
        · rw [hr]; exact congrArg (Value.int .i64) (by omega)
        · exact HROW.out.snoc ty n2 _ _ cap4 hx.symm (fun hn => by have e4 := HO4.out (by omega); rw [e4, hoo]) (by omega) (by omega)
        · rw [List.length_append]; exact HOZ.out
      have HNXT := Lib.hid hnx
      clear hnx hbyz huz hsk hgrw HBZ HOZ HUZ hpb
      cases bMI <;> cases b256 <;> (go_wp2_with fail; go_roundw; (case rel => exact HNXT.out _ _); (case measure => simp; have := HNQ4.out; omega))
    · obtain rfl : nq = 0 := by omega
      have hq : q = [] := List.eq_nil_of_length_eq_zero HNQ.out.symm
      have hdone : ats = done := by
        have h1 := HLEFT.out
        rw [hq] at h1
        have := h1.stop
        rw [HATS.out] at this; exact Option.some.inj this
      have HDONE := Lib.hid hdone
      have hlt : ¬ (reach done : Int) < (N : Int) := by omega
      clear hq hdone
      go_wp2_with fail
      go_ret
      refine ⟨rfl, ⟨cur, s, xs, HBM.out, HMC.out.1, by rw [HNN.out]; exact HC2.out, HMC.out.2.1, HMC.out.2.2.1, ?_, ?_⟩, HUW.out⟩
      · rw [HDONE.out]; exact HOWN.out
      · rw [HDONE.out]; exact HROW.out
end Go.Proofs.YtpkipinamlbdoaaGreatDoor

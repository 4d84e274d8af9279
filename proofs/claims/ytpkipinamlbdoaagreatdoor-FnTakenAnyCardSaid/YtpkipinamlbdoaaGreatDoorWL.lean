/-
  The walks of the reference's lengthened, Sign, Mark. Conditions: at least four bytes, at most ten thousand.
-/
import Derived.Test.YtpkipinamlbdoaaGreatDoorWM
import Derived.Test.YtpkipinamlbdoaaGreatDoorWE
import Derived.Deep.RegionHeld3
namespace Go.Proofs.YtpkipinamlbdoaaGreatDoor
open Go Go.RowKit
attribute [local go_sem] I32_cvt I8_cvt

theorem step_copyB {w : World} {ops : Array Oper} {o : Oper} {a : Act} {K : Act → World → Prop} {Q : Exit → Act → World → Prop} {E : Prop} (hgd : o.guard = none) (d s : Operand)
    (ho : o.op = .call { callee := .builtin .copy, args := #[d, s], argTypes := #[22, 22] }) (g off n c : Nat) (y : Value) (cur : Array Value) (l : List UInt8)
    (hd : a.eval d = .slice (some ⟨g, off, none⟩) n c) (hs : a.eval s = y) (hrd : Rd w y l) (hg : Blk w g cur 5) (hn : off + n ≤ cur.size) (hl : l.length ≤ n)
    (h : ∀ w', Blk w' g (splice cur.toList off (bv l)).toArray 5 → Upd (fun k => k = g) w w' → K (a.put o.dst (goInt l.length)) w') :
    if Region.wanted o (yielded ops a.tmps) = true then Oper.wp Tryz.prog o a w K Q else E := by
  have hw : Region.wanted o (yielded ops a.tmps) = true := by simp [Region.wanted, hgd]
  rw [if_pos hw]
  cases hrd with
  | nil =>
    have hrun := run_copy_none (P := Tryz.prog) w 22 22 o.type 5 (some ⟨g, off, none⟩) none n c 0 0 Tryz.underlying22 info5s (by simp)
    unfold Oper.wp
    simp [execOp, ho, resolve, invoke, builtin, hd, hs, hrun, Result.andThen]
    exact h w (by simpa [splice, bv] using hg) (Upd.refl _ _)
  | at_ b p m k l hm hc hmx hb hlt =>
    subst hm
    have hrun := run_copy_row (P := Tryz.prog) w 22 22 o.type 5 g off n c ⟨b, p, none⟩ l.length k cur 5 (bv l) Tryz.underlying22 info5s hg (by rw [bv_length]; exact (Nat.min_eq_left hl).symm) hb.news (by rw [bv_length]; omega) (bv_one l)
    unfold Oper.wp
    simp [execOp, ho, resolve, invoke, builtin, hd, hs, hrun, Result.andThen]
    have := h (w.setRow g (splice cur.toList off (bv l)).toArray) (hg.row _) ⟨rfl, rfl, rfl, by simp [World.setRow], fun k _ hk => setRow_other _ _ _ _ hk⟩
    simp only [splice, bv_length] at this ⊢
    exact this
theorem Rd.addr {w : World} {A : Option Addr} {n c : Nat} {l : List UInt8} (h : Rd w (.slice A n c) l) (hl : 0 < l.length) : ∃ b o, A = some ⟨b, o, none⟩ ∧ n = l.length ∧ n ≤ c ∧ c ≤ maxLen ∧ Bytes w b o l ∧ b < w.heap.size := by
  generalize hv : Value.slice A n c = v at h
  cases h with
  | nil => simp at hl
  | at_ b o m k l hn hc hm hb hlt => cases hv; exact ⟨b, o, rfl, hn, hc, hm, hb, hlt⟩
/-- A message's bytes with so much added to the number at its bytes two and three. -/
def lenUp (n : Nat) (l : List UInt8) : List UInt8 := l.take 2 ++ beB (beN ((l.drop 2).take 2) + n) 2 ++ l.drop 4
theorem lenUp_length (n : Nat) (l : List UInt8) (h : 4 ≤ l.length) : (lenUp n l).length = l.length := by
  simp [lenUp, beB_length]; omega
theorem splice_lenUp (n : Nat) (l : List UInt8) (cur : List Value) (h4 : 4 ≤ l.length) (ht : cur.take l.length = bv l) :
    (splice cur 2 (bv (beB (beN ((l.drop 2).take 2) + n) 2))).take l.length = bv (lenUp n l) := by
  have hl : l.length ≤ cur.length := by
    have := congrArg List.length ht
    simp at this; omega
  have e1 : cur.take 2 = bv (l.take 2) := by
    have := congrArg (List.take 2) ht
    rw [List.take_take, Nat.min_eq_left (by omega)] at this
    rw [this]; simp [bv, List.map_take]
  have e2 : (cur.drop 4).take (l.length - 4) = bv (l.drop 4) := by
    have := congrArg (List.drop 4) ht
    rw [List.drop_take] at this
    rw [this]; simp [bv, List.map_drop]
  simp only [splice, bv_length, beB_length, lenUp, bv_append]
  rw [e1, ← List.append_assoc, List.take_append]
  have e3 : (bv (l.take 2) ++ bv (beB (beN ((l.drop 2).take 2) + n) 2)).length = 4 := by simp [beB_length]; omega
  rw [List.take_of_length_le (by rw [e3]; exact h4), e3, e2]
set_option maxRecDepth 100000 in
set_option maxHeartbeats 4000000 in
theorem lengthened_any (A : Option Addr) (m c n : Nat) (l : List UInt8) (w : World) (hd : Rd w (.slice A m c) l) (h4 : 4 ≤ l.length) (hlen : l.length ≤ 100000) (hn : n ≤ 1000) :
    Calls Tryz.prog 18 #[.slice A m c, .int .i64 n] w fun e w' => ∃ r, e = .returned r ∧ Own w' w.heap.size r (lenUp n l) ∧ Fresh w w' := by
  have HD : Hid (Rd w (.slice A m c) l) := hd
  obtain rfl := hd.len
  clear hd
  go_enter Tryz.func18, Tryz.ntmps18
  go_wp2_with (at_builtin; go_must (refine wpList_app rfl (.tmp 6) (.tmp 7) rfl w.heap.size _ _ [] l rfl ?own rfl ?rd ?b1 ?b2 ?_))
  case own => exact Own.empty' _ _ _ (Nat.le_refl _) rfl
  case rd => exact HD.out.upd ((Upd.refl (fun _ => False) w).alloc _) (fun _ _ f => f)
  case b1 => simp; omega
  case b2 => simp
  intro v1 w1 hown hgrow
  have hown' : Own w1 w.heap.size v1 l := hown
  have HU1 : Hid (Fresh w w1) := ((Upd.refl (fun _ => False) w).alloc _).grown hgrow (fun k hk hlt => by simp [Value.ownBlock] at hk; omega)
  obtain ⟨g, cap, cur, e1, hg, hb, hlc, hcm, hcs, hct⟩ := hown'.blk (by omega)
  subst e1
  have HB : Hid (Blk w1 g cur 5) := hb
  have HT : Hid (cur.toList.take l.length = bv l) := hct
  have HR : Hid (Rd w1 (.slice A l.length c) l) := HD.out.upd HU1.out (fun _ _ f => f)
  clear hown hown' hgrow hb hct HD
  have hn1 : ¬ cap = 2 := by omega
  unfold maxLen at hcm
  go_upto_region 2 with fail
  go_cut [] (fun wx => Own wx w.heap.size (.slice (some ⟨g, 0, none⟩) l.length cap) (lenUp n l) ∧ Fresh w wx)
  case first =>
    have hb2 := beN_lt ((l.drop 2).take 2)
    have hbl : ((l.drop 2).take 2).length = 2 := by simp; omega
    rw [hbl] at hb2
    obtain ⟨pb, po, rfl, _, hlc2, hcm2, hby, _⟩ := HR.out.addr (by omega)
    have HY : Hid (Bytes w1 pb po l) := hby
    clear hby
    unfold maxLen at hcm2
    have hcap4 : (4 : Int) ≤ (cap : Int) := by omega
    have hcapn : ¬ (cap : Int) = 2 := by omega
    have hat : Calls Tryz.prog 11 #[.slice (some ⟨pb, po, none⟩) l.length c, .int .i64 2, .int .i64 2] w1.drew fun e w' => e = .returned (.int .i64 (beN ((l.drop 2).take 2) : Nat)) ∧ w1.drew = w' :=
      at_any l pb po l.length c 2 2 w1.drew rfl hlc2 hcm2 (HY.out.upd ((Upd.refl (fun _ => False) w1).drew) (fun f => f)) (by omega) (by omega) (by omega)
    generalize hN : beN ((l.drop 2).take 2) = N at *
    have hwr : IntKind.i64.wrap ((N : Int) + n) = ((N + n : Nat) : Int) := by rw [IntKind.wrap_i64]; omega
    have hnum : Calls Tryz.prog 19 #[.int .i64 (IntKind.i64.wrap ((N : Int) + n)), .int .i64 2] w1.drew fun e w' => ∃ v, e = .returned v ∧ Own w' w1.drew.heap.size v (beB (N + n) 2) ∧ Fresh w1.drew w' := by
      have := number_any (N + n) 2 w1.drew (by omega) (by omega)
      rw [hwr]; exact this
    clear hwr
    go_region_held3 (fun _ => True) (exact True.intro) (first
      | (refine step_copyB rfl (.tmp 10) (.tmp 15) rfl g 2 2 (cap - 2) _ cur (beB (N + n) 2) rfl rfl hown6.rd ((HB.out.upd ((Upd.refl (fun _ => False) w1).drew) (fun f => f)).upd hu6 (fun f => f)) (by omega) (by rw [beB_length]; omega) ?_; intro w7 hb7 hu7)
      | (go_at_call 11; refine hat.mono ?_; rintro e w5 ⟨rfl, rfl⟩)
      | (go_at_call 19; refine hnum.mono ?_; rintro e w6 ⟨v6, rfl, hown6, hu6⟩))
    go_wp2_with fail
    go_meet
    subst hN
    have hus := ((HU1.out.drew).fresh hu6).newer hu7 (fun k e => by omega)
    refine ⟨?_, hus⟩
    refine Own.of_blk' hb7 hg (lenUp n l) l.length (lenUp_length n l h4).symm (by rw [lenUp_length n l h4]; exact hlc) (by unfold maxLen; omega) ?_ ?_
    · rw [List.size_toArray, length_splice _ _ _ (by rw [bv_length, beB_length, Array.length_toList]; omega), Array.length_toList]; exact hcs
    · rw [lenUp_length n l h4]
      exact splice_lenUp n l cur.toList h4 HT.out
  case rest =>
    obtain ⟨hown, hu⟩ := hcut
    have HO : Hid (Own wc w.heap.size (.slice (some ⟨g, 0, none⟩) l.length cap) (lenUp n l)) := hown
    clear hown
    go_wp2
    go_ret
    exact ⟨_, rfl, HO.out, hu⟩
end Go.Proofs.YtpkipinamlbdoaaGreatDoor

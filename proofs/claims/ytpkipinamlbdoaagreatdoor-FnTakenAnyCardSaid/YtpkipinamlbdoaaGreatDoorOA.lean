/-
  The walk of the reference's Header and Encode at a message of the method 1 without attributes. No condition.
-/
import Derived.Test.YtpkipinamlbdoaaGreatDoorWG
import Derived.Deep.RegionLaw
import Derived.Deep.AppendLies
import Derived.Lib.Hide
namespace Go.Proofs.YtpkipinamlbdoaaGreatDoor
open Go Go.RowKit
attribute [local go_sem] I32_cvt I8_cvt
/-- append(s, x...) as one step of a region that draws. -/
theorem step_app {w : World} {ops : Array Oper} {o : Oper} {a : Act} {K : Act → World → Prop} {Q : Exit → Act → World → Prop} {E : Prop} (hgd : o.guard = none) (s x : Operand)
    (ho : o.op = .call { callee := .builtin .append, args := #[s, x], argTypes := #[22, 22] })
    (base : Nat) (v y : Value) (L l : List UInt8) (hs : a.eval s = v) (hown : Own w base v L) (hx : a.eval x = y) (hrd : Rd w y l)
    (hbytes : L.length + l.length ≤ 140737488355328) (hbase : base ≤ w.heap.size) (h0 : 0 < l.length)
    (h : ∀ v' w', Own w' base v' (L ++ l) → w.grownBy w' v.ownBlock → K (a.put o.dst v') w') :
    if Region.wanted o (yielded ops a.tmps) = true then Oper.wp Tryz.prog o a w K Q else E := by
  obtain ⟨i0, hi, hz0, hz1, hz2⟩ := info_parts info5
  cases hrd with
  | nil => simp at h0
  | at_ b off n c l hn hc hm hl hb =>
    subst hn
    refine step_append_lies w hgd s x 22 ho base 5 i0 (.int .u8 0) 1 1 Tryz.underlying22 hi hz0 hz1 hz2 rfl (by decide) v L.length (bv L) hs hown ⟨b, off, none⟩ l.length c (bv l) hx (by simp) hl.news (bv_one l) h0 (by unfold maxLen; omega) (by omega) hbase _ rfl ?_
    intro g cap w' h1 h2 _ _
    exact h _ w' (Own.snoc h1) h2
/-- The message of the method 1 that has no attributes. -/
def M1 : Array Value := #[.int .i64 1, .int .i64 0, .int .u8 0, .int .u8 0, .int .u8 0, .int .u8 0, .int .u8 0, .int .u8 0, .int .u8 0, .int .u8 0, .int .u8 0, .int .u8 0, .int .u8 0, .int .u8 0, .slice none 0 0]
/-- Its bytes. -/
def encL : List UInt8 := [0, 1, 0, 0, 0x21, 0x12, 0xa4, 0x42, 0, 0, 0, 0, 0, 0, 0, 0, 0, 0, 0, 0]
set_option maxRecDepth 100000 in
theorem typeValue_1 (w : World) : Calls Tryz.prog 50 #[.int .i64 1, .int .i64 0] w fun e w' => e = .returned (.int .i64 1) ∧ w = w' := by
  have b1 : bits .and .i64 1 15 = 1 := by decide
  have b2 : bits .and .i64 0 1 = 0 := by decide
  have b3 : bits .and .i64 0 7 = 0 := by decide
  have b4 : bits .and .i64 0 31 = 0 := by decide
  have b5 : bits .or .i64 1 0 = 1 := by decide
  go_enter Tryz.func50, Tryz.ntmps50
  go_wp2
  go_ret
  exact ⟨rfl, rfl⟩
theorem M1_id {w : World} {g : Nat} (h : Blk w g M1 27) : Rd w (.slice (some ⟨g, 2, none⟩) 12 12) (List.replicate 12 0) := by
  refine .at_ g 2 12 12 _ rfl (Nat.le_refl _) (by unfold maxLen; omega) (fun i hi => ?_) h.lt
  rw [h.cell, I8_def]
  simp only [List.length_replicate] at hi
  match i, hi with
  | 0, _ => rfl
  | 1, _ => rfl
  | 2, _ => rfl
  | 3, _ => rfl
  | 4, _ => rfl
  | 5, _ => rfl
  | 6, _ => rfl
  | 7, _ => rfl
  | 8, _ => rfl
  | 9, _ => rfl
  | 10, _ => rfl
  | 11, _ => rfl
set_option maxRecDepth 100000 in
set_option maxHeartbeats 4000000 in
theorem header_1 (w : World) :
    Calls Tryz.prog 37 #[.agg M1, .int .i64 0] w fun e w' => ∃ r, e = .returned r ∧ Own w' w.heap.size r encL ∧ Fresh w w' := by
  have HB0 := Lib.hid (Blk.new w M1 27)
  have HU0 : Hid (Fresh w (w.alloc (.cells M1 27))) := (Upd.refl _ w).alloc _
  have e0 : (w.alloc (.cells M1 27)).cell? ⟨w.heap.size, 0, none⟩ = some (.int .i64 1) := by rw [HB0.out.cell]; rfl
  have e1 : (w.alloc (.cells M1 27)).cell? ⟨w.heap.size, 1, none⟩ = some (.int .i64 0) := by rw [HB0.out.cell]; rfl
  go_enter Tryz.func37, Tryz.ntmps37
  go_wp2_with fail
  refine (typeValue_1 _).mono ?_
  rintro e w1 ⟨rfl, rfl⟩
  clear e0 e1
  generalize w.alloc (.cells M1 27) = wx at *
  go_wp2_with fail
  refine (number_any 1 2 _ (by omega) (by omega)).mono ?_
  rintro e w2 ⟨v2, rfl, hown, hu⟩
  have HO2 := Lib.hid hown
  have HU2 := Lib.hid hu
  clear hown hu
  go_wp2_with fail
  refine (number_any 0 2 _ (by omega) (by omega)).mono ?_
  rintro e w3 ⟨v3, rfl, hown, hu⟩
  have HO3 := Lib.hid hown
  have HU3 := Lib.hid (HU2.out.fresh hu)
  have HO2b := Lib.hid (HO2.out.upd hu (fun _ _ f => f))
  clear hown hu HO2
  have hsz : wx.heap.size ≤ w2.heap.size := HU2.out.size
  have hsz3 : wx.heap.size ≤ w3.heap.size := HU3.out.size
  go_wp2_with (at_builtin; go_must (refine wpList_app rfl (.tmp 11) (.tmp 13) rfl wx.heap.size _ _ (beB 1 2) (beB 0 2) rfl HO2b.out rfl HO3.out.rd (by simp [beB_length]) hsz3 ?_))
  intro v4 w4 hown hgrow
  have HO4 := Lib.hid hown
  have HU4 : Hid (Fresh wx w4) := HU3.out.grown hgrow (fun k hk hlt => by have := (HO2b.out.lt _ hk).1; omega)
  clear hown hgrow HO2b HO3
  have hsz4 : wx.heap.size ≤ w4.drew.heap.size := HU4.out.size
  have HO4b := Lib.hid (HO4.out.upd ((Upd.refl (fun _ => False) w4).drew) (fun _ _ f => f))
  have HNUM := Lib.hid (number_any 554869826 4 w4.drew (by omega) (by omega))
  clear hsz hsz3
  go_wp2_with fail
  go_region_law (first
    | (go_simp; go_at_call 19; refine HNUM.out.mono ?_; rintro e w5 ⟨v5, rfl, hown5, hu5⟩)
    | (refine step_app rfl (.tmp 15) (.tmp 16) rfl wx.heap.size _ _ (beB 1 2 ++ beB 0 2) (beB 554869826 4) rfl (HO4b.out.upd hu5 (fun _ _ f => f)) rfl hown5.rd (by simp [beB_length]) (Nat.le_trans hsz4 hu5.size) (by simp [beB_length]) ?_; intro v6 w6 hown6 hgrow6; have hu6 : Fresh wx w6 := ((HU4.out.drew).fresh hu5).grown hgrow6 (fun k hk hlt => by have := (HO4.out.lt _ hk).1; omega); have hsz6 := hu6.size)
    | (refine step_app rfl (.tmp 17) (.tmp 19) rfl wx.heap.size _ _ (beB 1 2 ++ beB 0 2 ++ beB 554869826 4) (List.replicate 12 0) rfl hown6 rfl (M1_id (HB0.out.upd hu6 (fun f => f))) (by simp [beB_length]) hsz6 (by simp) ?_; intro v7 w7 hown7 hgrow7))
  have HU7 : Hid (Fresh w w7) := ((HU0.out.fresh hu6)).grown hgrow7 (fun k hk hlt => by have := (hown6.lt _ hk).1; have := HU0.out.size; omega)
  have HO7 : Hid (Own w7 w.heap.size v7 encL) := Own.base hown7 HU0.out.size
  clear hown7 hgrow7 hown6 hgrow6 hu6 hsz6 hown5 hu5 hsz4
  go_wp2
  go_ret
  exact ⟨_, rfl, HO7.out, HU7.out⟩
/-- An empty slice of bytes that is made. -/
theorem built0 (w : World) : Own (w.alloc (.cells #[] 5)) w.heap.size (.slice (some ⟨w.heap.size, 0, none⟩) 0 0) [] := Own.empty w _ (Nat.le_refl _)
theorem info27m : (Tryz.prog.info? 27).map (·.size) = some M1.size := by kernel_rfl
set_option maxRecDepth 100000 in
set_option maxHeartbeats 4000000 in
theorem encode_1 (w : World) :
    Calls Tryz.prog 22 #[.agg M1] w fun e w' => ∃ r, e = .returned r ∧ Own w' w.heap.size r encL ∧ Fresh w w' := by
  have HB0 := Lib.hid (Blk.new w M1 27)
  have HU0 : Hid (Fresh w (w.alloc (.cells M1 27))) := (Upd.refl _ w).alloc _
  have e14 : (w.alloc (.cells M1 27)).cell? ⟨w.heap.size, 14, none⟩ = some (.slice none 0 0) := by rw [HB0.out.cell]; rfl
  have HS0 : Hid (w.heap.size < (w.alloc (.cells M1 27)).heap.size) := HB0.out.lt
  go_enter Tryz.func22, Tryz.ntmps22
  go_upto_region 1 with fail
  generalize w.alloc (.cells M1 27) = wx at *
  have HB1 : Hid (Own (wx.alloc (.cells #[] 5)) w.heap.size (.slice (some ⟨wx.heap.size, 0, none⟩) 0 0) []) := Own.empty wx _ HU0.out.size
  have HU1 : Hid (Fresh w (wx.alloc (.cells #[] 5))) := HU0.out.alloc _
  have e14b : (wx.alloc (.cells #[] 5)).cell? ⟨w.heap.size, 14, none⟩ = some (.slice none 0 0) := ((Upd.refl (fun _ => False) wx).alloc _).cell (fun f => f) e14
  have HB2 := Lib.hid (HB0.out.alloc (.cells #[] 5))
  go_wp2_with fail
  go_loopw [3, 10] (fun v i wr => v = .slice (some ⟨wx.heap.size, 0, none⟩) 0 0 ∧ i = .int .i64 0 ∧ wr = wx.alloc (.cells #[] 5)) (fun _ _ _ => 0)
  case atStart => exact ⟨rfl, rfl, rfl⟩
  case round =>
    obtain ⟨rfl, rfl, rfl⟩ := hrel
    clear e14 e14b
    have hid := header_1 (wx.alloc (.cells #[] 5))
    have HH := Lib.hid hid
    clear hid
    go_wp2_with (refine wpList_load_row rfl 27 (.tmp 1) rfl w.heap.size rfl 27 M1 (0, 0) _ HB2.out Tryz.underlying27 rfl info27m ?_)
    refine HH.out.mono ?_
    rintro e w2 ⟨v2, rfl, hown, hu⟩
    have HO2 := Lib.hid hown
    have HU2 := Lib.hid (HU1.out.fresh hu)
    have HO1 := Lib.hid (HB1.out.upd hu (fun _ _ f => f))
    clear hown hu
    have hsz : w.heap.size ≤ w2.heap.size := HU2.out.size
    go_wp2_with (at_builtin; go_must (refine wpList_app rfl (.tmp 22) (.tmp 23) rfl w.heap.size _ _ encL [] rfl (HO2.out.base HU1.out.size) rfl HO1.out.rd (by simp [encL]) hsz ?_))
    intro v4 w4 hown hgrow
    have HU4 : Hid (Fresh w w4) := HU2.out.grown hgrow (fun k hk hlt => by have := (HO2.out.lt _ hk).1; have := HU1.out.size; omega)
    have HO4 : Hid (Own w4 w.heap.size v4 encL) := by
      show Own _ _ _ _
      simpa using hown
    clear hown hgrow
    go_wp2
    go_ret
    exact ⟨_, rfl, HO4.out, HU4.out⟩
end Go.Proofs.YtpkipinamlbdoaaGreatDoor

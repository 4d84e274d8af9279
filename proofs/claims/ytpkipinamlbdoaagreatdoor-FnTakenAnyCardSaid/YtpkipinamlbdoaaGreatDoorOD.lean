/-
  The walk of right. Condition: the three error variables are laid.
-/
import Derived.Test.YtpkipinamlbdoaaGreatDoorOB
import Derived.Lib.SlBytesConst
namespace Go.Proofs.YtpkipinamlbdoaaGreatDoor
open Go Go.RowKit
attribute [local go_sem] I32_cvt I8_cvt
theorem run_build27 (w : World) : (Instr.build 27 #[(0, .int .i64 1)]).run Tryz.prog w = .ok (.agg M1) w := by kernel_rfl
theorem wpList_build27 {ops : Array Oper} {rest : List Oper} {o : Oper} {a : Act} {w : World} {Q : Exit → Act → World → Prop} (hg : o.guard = none) (hop : o.op = .build 27 #[(0, .const (.int .i64 1))])
    (h : wpList Tryz.prog ops Q rest (a.put o.dst (.agg M1)) w) : wpList Tryz.prog ops Q (o :: rest) a w := by
  refine wpList_plain hg fun K hK => ?_
  have he : a.eval (.const (.int .i64 1)) = .int .i64 1 := rfl
  unfold Oper.wp execOp
  simp only [hop, List.map_toArray, List.map_cons, List.map_nil, he, Sem.run_bind, run_build27, Result.andThen_ok, Sem.run_pure, Oper.upon]
  exact hK _ _ h
/-- The bytes of a constant string of one byte. -/
theorem rd_const1 (w : World) (x : UInt8) (v : Int) (h : v = I8 x) : Rd (w.alloc (.cells #[.int .u8 v] 5 (1, 2))) (.slice (some ⟨w.heap.size, 0, none⟩) 1 1) [x] := by
  subst h
  refine .at_ _ 0 1 1 [x] rfl (Nat.le_refl _) (by unfold maxLen; omega) (fun i hi => ?_) (by simp)
  obtain rfl : i = 0 := by simpa using hi
  rw [World.cell?_alloc_mark]
  rfl
theorem const1 (w : World) (v : Int) : (convert 22 22 (.slice (some ⟨w.heap.size, 0, none⟩) 1 1)).run Tryz.prog (w.alloc (.cells #[.int .u8 v] 5)) = .ok (.slice (some ⟨w.heap.size, 0, none⟩) 1 1) (w.alloc (.cells #[.int .u8 v] 5 (1, 2))) :=
  Lib.run_convert_bytes_const w 22 5 _ 1 1 Tryz.underlying22 Tryz.underlying5
set_option maxRecDepth 100000 in
set_option maxHeartbeats 4000000 in
theorem right_any (a0 a1 a2 : Addr) (w : World) (hE : Errs a0 a1 a2 w) : Calls Tryz.prog 10 #[] w fun e w' => e = .returned (.bool true) ∧ Fresh w w' := by
  have HE := Lib.hid hE
  have HEN := Lib.hid (encode_1 w)
  clear hE
  go_enter Tryz.func10, Tryz.ntmps10
  go_wp2_with (refine wpList_build27 rfl rfl ?_)
  refine HEN.out.mono ?_
  rintro e w1 ⟨v1, rfl, hown, hu⟩
  have HO1 := Lib.hid hown
  have HU1 := Lib.hid hu
  clear hown hu HEN
  obtain ⟨g1, c1, rfl, _⟩ := HO1.out.form (by decide)
  have hL : encL.length = 20 := rfl
  have HRA := Lib.hid (rd_const1 w1 97 97 (by rw [I8_def]; rfl))
  have HUA : Hid (Fresh w1 (w1.alloc (.cells #[.int .u8 97] 5 (1, 2)))) := (Upd.refl _ w1).alloc _
  have kc := const1 w1 97
  have HRE := Lib.hid (HO1.out.rd.upd HUA.out (fun _ _ f => f))
  have hL : encL.length = 20 := rfl
  rw [hL] at HRE
  have HSG := Lib.hid (sign_any (some ⟨g1, 0, none⟩) (some ⟨w1.heap.size, 0, none⟩) 20 c1 1 1 encL [97] _ HRE.out HRA.out (by decide) (by decide) (by decide))
  rw [hL]
  clear hL
  have HUB := Lib.hid (HU1.out.fresh HUA.out)
  clear HUA HRA HO1 HU1
  go_wp2_with fail
  clear kc
  refine HSG.out.mono ?_
  rintro e w2 ⟨v2, rfl, hown, hu⟩
  have HU2 := Lib.hid (HUB.out.fresh hu)
  have HO2 := Lib.hid hown
  clear hown hu HSG HRE HUB
  have hsl := signOf_length encL [97] (by decide)
  have hel : encL.length = 20 := rfl
  obtain ⟨g2, c2, rfl, _⟩ := HO2.out.form (by omega)
  have hs44 : (signOf encL [97]).length = 44 := by omega
  rw [hs44]
  have HMK := Lib.hid (mark_any (some ⟨g2, 0, none⟩) 44 c2 (signOf encL [97]) w2 (hs44 ▸ HO2.out.rd) (by omega) (by omega))
  clear hsl hel hs44
  go_wp2_with fail
  refine HMK.out.mono ?_
  rintro e w3 ⟨v3, rfl, hown, hu⟩
  rw [rb_eq] at hown
  have HU3 := Lib.hid (HU2.out.fresh hu)
  have HO3 := Lib.hid hown
  clear hown hu HMK HO2 HU2
  obtain ⟨g3, c3, rfl, _⟩ := HO3.out.form (by decide)
  rw [rb_len] at *
  have HE3 := Lib.hid (HE.out.fresh HU3.out)
  have kc := const1 w3 97
  have HUA : Hid (Fresh w3 (w3.alloc (.cells #[.int .u8 97] 5 (1, 2)))) := (Upd.refl _ w3).alloc _
  have HS4 := Lib.hid (signed_rb_a a0 a1 a2 (some ⟨g3, 0, none⟩) (some ⟨w3.heap.size, 0, none⟩) 52 c3 1 1 _ (HE3.out.fresh HUA.out) (HO3.out.rd.upd HUA.out (fun _ _ f => f)) (rd_const1 w3 97 97 (by rw [I8_def]; rfl)))
  have HU4 := Lib.hid (HU3.out.fresh HUA.out)
  have HO4 := Lib.hid (HO3.out.rd.upd HUA.out (fun _ _ f => f))
  go_wp2_with fail
  clear kc
  refine HS4.out.mono ?_
  rintro e w5 ⟨rfl, hu⟩
  have HU5 := Lib.hid (HU4.out.fresh hu)
  have HO5 := Lib.hid (HO4.out.upd hu (fun _ _ f => f))
  clear hu HS4 HO4 HU4 HUA HE3
  have HM5 := Lib.hid (marked_rb a0 a1 a2 (some ⟨g3, 0, none⟩) 52 c3 w5 (HE.out.fresh HU5.out) HO5.out)
  go_wp2_with fail
  refine HM5.out.mono ?_
  rintro e w6 ⟨rfl, hu⟩
  have HU6 := Lib.hid (HU5.out.fresh hu)
  have HO6 := Lib.hid (HO5.out.upd hu (fun _ _ f => f))
  clear hu HM5 HO5 HU5
  have kc := const1 w6 98
  have HUA : Hid (Fresh w6 (w6.alloc (.cells #[.int .u8 98] 5 (1, 2)))) := (Upd.refl _ w6).alloc _
  have HU7 := Lib.hid (HU6.out.fresh HUA.out)
  have HS7 := Lib.hid (signed_rb_b a0 a1 a2 (some ⟨g3, 0, none⟩) (some ⟨w6.heap.size, 0, none⟩) 52 c3 1 1 _ (HE.out.fresh HU7.out) (HO6.out.upd HUA.out (fun _ _ f => f)) (rd_const1 w6 98 98 (by rw [I8_def]; rfl)))
  go_wp2_with fail
  clear kc
  refine HS7.out.mono ?_
  rintro e w8 ⟨rfl, hu⟩
  have HU8 := Lib.hid (HU7.out.fresh hu)
  clear hu
  go_wp2_with fail
  go_ret
  exact ⟨rfl, HU8.out⟩
end Go.Proofs.YtpkipinamlbdoaaGreatDoor

/-
  The walks of the reference's Sign and Mark. Conditions: at least twenty bytes, at most fifty thousand.
-/
import Derived.Test.YtpkipinamlbdoaaGreatDoorWL
import Derived.Test.YtpkipinamlbdoaaGreatDoorP
namespace Go.Proofs.YtpkipinamlbdoaaGreatDoor
open Go Go.RowKit
attribute [local go_sem] I32_cvt I8_cvt
def signOf (l key : List UInt8) : List UInt8 := lenUp 24 l ++ [0, 8, 0, 20] ++ macOf key (lenUp 24 l)
def markOf (l : List UInt8) : List UInt8 := lenUp 8 l ++ [0x80, 0x28, 0, 4] ++ beB (fpOf (lenUp 8 l)).toNat 4
theorem signOf_length (l key : List UInt8) (h : 4 ≤ l.length) : (signOf l key).length = l.length + 24 := by
  simp [signOf, lenUp_length _ _ h, macOf_length]
theorem markOf_length (l : List UInt8) (h : 4 ≤ l.length) : (markOf l).length = l.length + 8 := by
  simp [markOf, lenUp_length _ _ h, beB_length]
set_option maxRecDepth 100000 in
set_option maxHeartbeats 4000000 in
theorem sign_any (A B : Option Addr) (m c n d : Nat) (l key : List UInt8) (w : World) (hd : Rd w (.slice A m c) l) (hk : Rd w (.slice B n d) key) (h4 : 4 ≤ l.length) (hlen : l.length ≤ 50000) (hkl : key.length ≤ 50000) :
    Calls Tryz.prog 9 #[.slice A m c, .slice B n d] w fun e w' => ∃ r, e = .returned r ∧ Own w' w.heap.size r (signOf l key) ∧ Fresh w w' := by
  have HD : Hid (Rd w (.slice A m c) l) := hd
  have HK : Hid (Rd w (.slice B n d) key) := hk
  obtain rfl := hd.len
  obtain rfl := hk.len
  have HS : Hid (signOf l key = lenUp 24 l ++ [0, 8, 0, 20] ++ macOf key (lenUp 24 l)) := rfl
  have hul := lenUp_length 24 l h4
  have hml := macOf_length key (lenUp 24 l)
  have hc24 : Calls Tryz.prog 18 #[.slice A l.length c, .int .i64 24] w fun e w' => ∃ r, e = .returned r ∧ Own w' w.heap.size r (lenUp 24 l) ∧ Fresh w w' := lengthened_any A l.length c 24 l w hd h4 (by omega) (by omega)
  clear hd hk
  generalize lenUp 24 l = u at *
  go_enter Tryz.func9, Tryz.ntmps9
  go_wp2_with fail
  refine hc24.mono ?_
  rintro e w1 ⟨v1, rfl, hown, hu⟩
  have HO1 : Hid (Own w1 w.heap.size v1 u) := hown
  have HU1 : Hid (Fresh w w1) := hu
  have hsz1 : w.heap.size ≤ w1.heap.size := hu.size
  clear hown hu HD hc24
  go_wp2_with (at_builtin; go_must (refine wpList_app_keeps rfl (.tmp 8) (.tmp 9) rfl w.heap.size _ _ u [0, 8, 0, 20] rfl (HO1.out.alloc _) rfl (Rd.built' w1 [0, 8, 0, 20] _ _ _ rfl rfl (by simp [bv, I8_def]) (by simp)) (by omega) (by simp) (by simp; omega) (by simp; omega) ?_))
  intro v2 w2 hown hgrow hrd
  have HO2 : Hid (Own w2 w.heap.size v2 (u ++ [0, 8, 0, 20])) := hown
  have HR2 : Hid (Rd w2 v1 u) := hrd
  have HU2 : Hid (Fresh w w2) := (HU1.out.alloc _).grown hgrow (fun k hk hlt => by have := (HO1.out.lt _ hk).1; omega)
  have HK2 : Hid (Rd w2 (.slice B key.length d) key) := HK.out.upd HU2.out (fun _ _ f => f)
  have hsz2 : w.heap.size ≤ w2.heap.size := HU2.out.size
  clear hown hgrow hrd HK
  obtain ⟨g1, c1, e1, _, _, _, _, _⟩ := HO1.out.form (by omega)
  subst e1
  go_wp2_with fail
  refine (mac_any B (some ⟨g1, 0, none⟩) key.length d l.length c1 key u w2 HK2.out (hul ▸ HR2.out) (by omega) (by omega)).mono ?_
  rintro e w3 ⟨v3, rfl, hown, hu⟩
  have HO3 : Hid (Own w3 w2.heap.size v3 (macOf key u)) := hown
  have HU3 : Hid (Fresh w w3) := HU2.out.fresh hu
  have HO4 : Hid (Own w3 w.heap.size v2 (u ++ [0, 8, 0, 20])) := HO2.out.upd hu (fun _ _ f => f)
  clear hown hu
  have hsz3 : w.heap.size ≤ w3.heap.size := HU3.out.size
  generalize macOf key u = mc at *
  go_wp2_with (at_builtin; go_must (refine wpList_app rfl (.tmp 10) (.tmp 13) rfl w.heap.size _ _ (u ++ [0, 8, 0, 20]) mc rfl HO4.out rfl HO3.out.rd (by simp; omega) hsz3 ?_))
  intro v4 w4 hown hgrow
  have HO5 : Hid (Own w4 w.heap.size v4 (u ++ [0, 8, 0, 20] ++ mc)) := by
    show Own _ _ _ _
    simpa using hown
  have HU4 : Hid (Fresh w w4) := HU3.out.grown hgrow (fun k hk hlt => by have := (HO4.out.lt _ hk).1; omega)
  clear hown hgrow
  go_wp2
  go_ret
  refine ⟨_, rfl, ?_, HU4.out⟩
  rw [HS.out]; exact HO5.out
set_option maxRecDepth 100000 in
set_option maxHeartbeats 4000000 in
theorem mark_any (A : Option Addr) (m c : Nat) (l : List UInt8) (w : World) (hd : Rd w (.slice A m c) l) (h4 : 4 ≤ l.length) (hlen : l.length ≤ 50000) :
    Calls Tryz.prog 8 #[.slice A m c] w fun e w' => ∃ r, e = .returned r ∧ Own w' w.heap.size r (markOf l) ∧ Fresh w w' := by
  obtain rfl := hd.len
  have HS : Hid (markOf l = lenUp 8 l ++ [0x80, 0x28, 0, 4] ++ beB (fpOf (lenUp 8 l)).toNat 4) := rfl
  have hul := lenUp_length 8 l h4
  have hc24 : Calls Tryz.prog 18 #[.slice A l.length c, .int .i64 8] w fun e w' => ∃ r, e = .returned r ∧ Own w' w.heap.size r (lenUp 8 l) ∧ Fresh w w' := lengthened_any A l.length c 8 l w hd h4 (by omega) (by omega)
  clear hd
  generalize lenUp 8 l = u at *
  go_enter Tryz.func8, Tryz.ntmps8
  go_wp2_with fail
  refine hc24.mono ?_
  rintro e w1 ⟨v1, rfl, hown, hu⟩
  have HO1 : Hid (Own w1 w.heap.size v1 u) := hown
  have HU1 : Hid (Fresh w w1) := hu
  have hsz1 : w.heap.size ≤ w1.heap.size := hu.size
  clear hown hu hc24
  go_wp2_with (at_builtin; go_must (refine wpList_app_keeps rfl (.tmp 6) (.tmp 7) rfl w.heap.size _ _ u [0x80, 0x28, 0, 4] rfl (HO1.out.alloc _) rfl (Rd.built' w1 [0x80, 0x28, 0, 4] _ _ _ rfl rfl (by simp [bv, I8_def]) (by simp)) (by omega) (by simp) (by simp; omega) (by simp; omega) ?_))
  intro v2 w2 hown hgrow hrd
  have HO2 : Hid (Own w2 w.heap.size v2 (u ++ [0x80, 0x28, 0, 4])) := hown
  have HR2 : Hid (Rd w2 v1 u) := hrd
  have HU2 : Hid (Fresh w w2) := (HU1.out.alloc _).grown hgrow (fun k hk hlt => by have := (HO1.out.lt _ hk).1; omega)
  have hsz2 : w.heap.size ≤ w2.heap.size := HU2.out.size
  clear hown hgrow hrd
  obtain ⟨g1, c1, e1, _, _, _, _, _⟩ := HO1.out.form (by omega)
  subst e1
  obtain ⟨gb, go, ge, _, hlc, hcm, hby, _⟩ := HR2.out.addr (by omega)
  obtain ⟨rfl, rfl⟩ : g1 = gb ∧ 0 = go := by injection ge with ge; injection ge with e1 e2; exact ⟨e1, e2⟩
  go_wp2_with fail
  refine (fps_any u g1 0 l.length c1 w2 hul.symm (by omega) hcm hby).mono ?_
  rintro e w3 ⟨rfl, rfl⟩
  generalize fpOf u = x at *
  go_wp2_with fail
  have hxl := x.toNat_lt
  rw [wrap64_I32 x]
  refine (number_any x.toNat 4 w2 (by omega) (by omega)).mono ?_
  rintro e w3 ⟨v3, rfl, hown, hu⟩
  have HO3 : Hid (Own w3 w2.heap.size v3 (beB x.toNat 4)) := hown
  have HU3 : Hid (Fresh w w3) := HU2.out.fresh hu
  have HO4 : Hid (Own w3 w.heap.size v2 (u ++ [0x80, 0x28, 0, 4])) := HO2.out.upd hu (fun _ _ f => f)
  clear hown hu
  have hsz3 : w.heap.size ≤ w3.heap.size := HU3.out.size
  go_wp2_with (at_builtin; go_must (refine wpList_app rfl (.tmp 8) (.tmp 12) rfl w.heap.size _ _ (u ++ [0x80, 0x28, 0, 4]) (beB x.toNat 4) rfl HO4.out rfl HO3.out.rd (by simp [beB_length]; omega) hsz3 ?_))
  intro v4 w4 hown hgrow
  have HO5 : Hid (Own w4 w.heap.size v4 (u ++ [0x80, 0x28, 0, 4] ++ beB x.toNat 4)) := by
    show Own _ _ _ _
    simpa using hown
  have HU4 : Hid (Fresh w w4) := HU3.out.grown hgrow (fun k hk hlt => by have := (HO4.out.lt _ hk).1; omega)
  clear hown hgrow
  go_wp2
  go_ret
  refine ⟨_, rfl, ?_, HU4.out⟩
  rw [HS.out]; exact HO5.out
end Go.Proofs.YtpkipinamlbdoaaGreatDoor

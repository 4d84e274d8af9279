/-
  The law's walk. Conditions: the three error variables are laid.
-/
import Derived.Test.YtpkipinamlbdoaaGreatDoorIQ
import Derived.Test.YtpkipinamlbdoaaGreatDoorOF
import Derived.Test.YtpkipinamlbdoaaGreatDoorVA
import Derived.Laws.BytesArg
namespace Go.Proofs.YtpkipinamlbdoaaGreatDoor
open Go Go.RowKit
attribute [local go_sem] I32_cvt I8_cvt
set_option maxRecDepth 100000 in
set_option maxHeartbeats 4000000 in
theorem isAsked_long (A : Option Addr) (c : Nat) (l : List UInt8) (w : World) (hbig : 4096 < l.length) :
    Calls Tryz.prog 4 #[.slice A l.length c] w fun e w' => e = .returned (.bool false) ∧ w = w' := by
  have hb1 : decide ((4096 : Int) < (l.length : Int)) = true := by simp; omega
  go_enter Tryz.func4, Tryz.ntmps4
  go_wp2_with fail
  go_ret
  exact ⟨rfl, rfl⟩
theorem num_two (l : List UInt8) (i : Nat) (h : i + 1 < l.length) : num l i 2 = l[i].toNat * 256 + l[i + 1].toNat := by
  have e : (l.drop i).take 2 = [l[i], l[i + 1]] := by
    rw [List.drop_eq_getElem_cons (by omega), List.drop_eq_getElem_cons h]
    rfl
  unfold num
  rw [e]
  simp [beN]
theorem I8_in (x : UInt8) : 0 ≤ I8 x ∧ I8 x ≤ 255 := by
  have := x.toNat_lt
  rw [I8_def]; omega
theorem len_ne {n N : Nat} {x y : UInt8} (hX : N = x.toNat * 256 + y.toNat) (h : ¬ n = 20 + N) : ((n : Int) != 20 + 256 * I8 x + I8 y) = true := by
  rw [bne_iff_ne, I8_def, I8_def]; omega
theorem len_eq {n N : Nat} {x y : UInt8} (hX : N = x.toNat * 256 + y.toNat) (h : n = 20 + N) : ((n : Int) != 20 + 256 * I8 x + I8 y) = false := by
  rw [bne_eq_false_iff_eq, I8_def, I8_def]; omega
theorem len_le_reach (a : List (Nat × List UInt8)) : a.length ≤ reach a := by
  induction a with
  | nil => simp [reach]
  | cons x r ih =>
    obtain ⟨ty, y⟩ := x
    have := allOf_ge y.length
    simp only [reach, List.length_cons]; omega
theorem decodeL_len {l : List UInt8} {a : List (Nat × List UInt8)} (h : decodeL l = some a) : a.length ≤ l.length := by
  have h1 := decodeL_reach h
  have h2 := len_le_reach a
  obtain ⟨_, _, h3, _⟩ := decodeL_inv h
  omega
/-- The last two attributes: their types, and how long their values are. -/
def TailIs (ats : List (Nat × List UInt8)) (k ty1 n1 ty2 n2 : Nat) : Prop :=
  ∃ h : k + 2 = ats.length, (ats[k]'(by omega)).1 = ty1 ∧ (ats[k]'(by omega)).2.length = n1 ∧ (ats[k + 1]'(by omega)).1 = ty2 ∧ (ats[k + 1]'(by omega)).2.length = n2
theorem tail_cells {w : World} {base ga c k : Nat} {xs : List Value} {ats : List (Nat × List UInt8)} (hrow : ARow xs ats) (hown : w.ownsRow base 32 2 (.slice (some ⟨ga, 0, none⟩) ats.length c) ats.length xs) (hk : k + 2 = ats.length) :
    ∃ ty1 n1 ty2 n2 P1 q1 P3 q3, TailIs ats k ty1 n1 ty2 n2 ∧ w.cell? ⟨ga, k * 2, none⟩ = some (.int .i64 (ty1 : Nat)) ∧ w.cell? ⟨ga, k * 2 + 1, none⟩ = some (.slice P1 n1 q1) ∧
      w.cell? ⟨ga, (k + 1) * 2, none⟩ = some (.int .i64 (ty2 : Nat)) ∧ w.cell? ⟨ga, (k + 1) * 2 + 1, none⟩ = some (.slice P3 n2 q3) := by
  obtain ⟨p0, P1, q1, p1⟩ := hrow.get k (by omega)
  obtain ⟨p2, P3, q3, p3⟩ := hrow.get (k + 1) (by omega)
  have hf : ∀ m v, xs[m]? = some v → w.cell? ⟨ga, m, none⟩ = some v := fun m v h => by
    have := hown.cells (g := ga) rfl m v h
    rwa [Addr.add_lit, Nat.zero_add] at this
  refine ⟨_, _, _, _, P1, q1, P3, q3, ⟨hk, rfl, rfl, rfl, rfl⟩, ?_, ?_, ?_, ?_⟩
  · rw [Nat.mul_comm]; exact hf _ _ p0
  · rw [Nat.mul_comm]; exact hf _ _ p1
  · rw [Nat.mul_comm]; exact hf _ _ p2
  · rw [Nat.mul_comm]; exact hf _ _ p3
/-- None is an integrity or a fingerprint. -/
def NoneOf (a : List (Nat × List UInt8)) : Prop := ∀ i (h : i < a.length), (a[i]).1 ≠ 8 ∧ (a[i]).1 ≠ 32808
theorem noneOf_snoc (a : List (Nat × List UInt8)) (k : Nat) (h : k < a.length) (hn : NoneOf (a.take k)) (h8 : (a[k]).1 ≠ 8) (hf : (a[k]).1 ≠ 32808) : NoneOf (a.take (k + 1)) := by
  intro i hi
  rw [List.getElem_take]
  by_cases e : i = k
  · subst e; exact ⟨h8, hf⟩
  · have h2 : i < (a.take k).length := by simp at hi ⊢; omega
    have := hn i h2
    rwa [List.getElem_take] at this
/-- What the two checks say of bytes that end with an integrity and a fingerprint. -/
def CheckOk (l key : List UInt8) (v vk : Value) (w : World) : Prop :=
  ∀ w', Fresh w w' → ∀ (ats rest : List (Nat × List UInt8)), decodeL l = some ats → decodeL (aheadOf l) = some rest → TailIs ats rest.length 8 20 32808 4 → NoneOf rest → l.length = 20 + num l 2 2 → 52 ≤ l.length → l.length ≤ 4096 → key.length ≤ 1024 →
    ∃ t1 t2 : Bool, Calls Tryz.prog 6 #[v, vk] w' (fun e w'' => e = .returned (.int .i64 (if t1 then 0 else 8)) ∧ Fresh w' w'') ∧
      (∀ w'', Fresh w' w'' → Calls Tryz.prog 7 #[v] w'' (fun e w3 => e = .returned (.int .i64 (if t2 then 0 else 9)) ∧ Fresh w'' w3)) ∧ (t1 && t2) = decide (l = markOf (signOf (aheadOf l) key))
def strOf (l : List UInt8) : ByteArray := ⟨l.toArray⟩
set_option maxRecDepth 100000 in
theorem cv_any {w : World} {A : Option Addr} {n c : Nat} {l : List UInt8} (h : Rd w (.slice A n c) l) : (convert 22 9 (.slice A n c)).run Tryz.prog w = .ok (.string (strOf l)) w := by
  generalize hv : Value.slice A n c = v at h
  cases h with
  | nil => cases hv; exact run_convert_bytes_nil w 22 5 Tryz.underlying22 Tryz.underlying5 0 0 9 Tryz.underlying9
  | at_ b o m k l hn hc hm hl hb =>
    cases hv
    have := run_convert_bytes_arg w 22 5 Tryz.underlying22 Tryz.underlying5 b o n c (l.map fun x => (x.toNat : Int)) (by simp [hn]) (fun i hi => by
      rw [hl i (by omega), I8_def]
      simp [List.getD, List.getElem?_eq_getElem (show i < l.length by omega)]) 9 Tryz.underlying9
    rw [this]
    have e : strOfNums (l.map fun x => (x.toNat : Int)) = strOf l := by
      have e2 : ((fun n : Int => UInt8.ofNat n.toNat) ∘ fun x : UInt8 => (x.toNat : Int)) = id := by funext x; simp
      unfold strOfNums strOf
      rw [List.map_map, e2, List.map_id]
    rw [e]
theorem strOf_eq (l m : List UInt8) : ((strOf l).toList == (strOf m).toList) = decide (l = m) := by
  rw [ByteArray.toList_eq, ByteArray.toList_eq]
  show (l.toArray.toList == m.toArray.toList) = _
  rw [List.toList_toArray, List.toList_toArray]
  by_cases h : l = m
  · subst h; simp
  · rw [decide_eq_false h, beq_eq_false_iff_ne]; exact h
/-- right answers true. -/
def RightOk (w : World) : Prop := ∀ w', Fresh w w' → Calls Tryz.prog 10 #[] w' fun e w'' => e = .returned (.bool true) ∧ Fresh w' w''
def Yes (w : World) (e : Ending) (w' : World) : Prop := e = .returned (.bool true) ∧ Fresh w w'
set_option maxRecDepth 100000 in
set_option maxHeartbeats 8000000 in
theorem law_any (A B : Option Addr) (n c nk ck : Nat) (l key : List UInt8) (w : World) (hd : Rd w (.slice A n c) l) (hkey : Rk w (.slice B nk ck) key) (hchk : CheckOk l key (.slice A n c) (.slice B nk ck) w) (hright : RightOk w) :
    Calls Tryz.prog 3 #[.slice A n c, .slice B nk ck] w (Yes w) := by
  have HD := Lib.hid hd
  have HK := Lib.hid hkey
  obtain rfl := hd.len
  obtain rfl := hkey.len
  have HCHK := Lib.hid hchk
  have HRT := Lib.hid hright
  clear hd hkey hchk hright
  by_cases hb : 2147483647 < l.length
  · have hb1 : decide ((2147483647 : Int) < (l.length : Int)) = true := by simp; omega
    clear hb
    go_enter Tryz.func3, Tryz.ntmps3
    go_wp2_with fail
    go_ret
    exact ⟨rfl, Upd.refl _ _⟩
  have hb1 : decide ((2147483647 : Int) < (l.length : Int)) = false := by simp; omega
  by_cases hk : 2147483647 < key.length
  · have hk1 : decide ((2147483647 : Int) < (key.length : Int)) = true := by simp; omega
    clear hk hb
    go_enter Tryz.func3, Tryz.ntmps3
    go_wp2_with fail
    go_ret
    exact ⟨rfl, Upd.refl _ _⟩
  have hk1 : decide ((2147483647 : Int) < (key.length : Int)) = false := by simp; omega
  by_cases hbig : 4096 < l.length
  · clear hb hk
    go_enter Tryz.func3, Tryz.ntmps3
    go_wp2_with fail
    refine (isAsked_long _ _ _ _ hbig).mono ?_
    rintro e w' ⟨rfl, rfl⟩
    go_wp2_with fail
    go_ret
    exact ⟨rfl, Upd.refl _ _⟩
  have HASK := Lib.hid (isAsked_any A l.length c l w HD.out (by omega))
  go_enter Tryz.func3, Tryz.ntmps3
  go_wp2_with fail
  refine HASK.out.mono ?_
  rintro e w1 ⟨x, rfl, -, hu1⟩
  have HU1 := Lib.hid hu1
  have HL4 : Hid (l.length ≤ 4096) := by show _ ≤ _; omega
  clear hu1 HASK hb hk hbig
  cases x with
  | false =>
    go_wp2_with fail
    go_ret
    exact ⟨rfl, HU1.out⟩
  | true =>
  by_cases h1024 : 1024 < key.length
  · have hk2 : decide ((1024 : Int) < (key.length : Int)) = true := by simp; omega
    clear h1024
    go_wp2_with fail
    go_ret
    exact ⟨rfl, HU1.out⟩
  have hk2 : decide ((1024 : Int) < (key.length : Int)) = false := by simp; omega
  by_cases h52 : l.length < 52
  · have hl2 : decide ((l.length : Int) < (52 : Int)) = true := by simp; omega
    clear h1024 h52
    go_wp2_with fail
    go_ret
    exact ⟨rfl, HU1.out⟩
  have hl2 : decide ((l.length : Int) < (52 : Int)) = false := by simp; omega
  have HD1 := Lib.hid (HD.out.upd HU1.out (fun _ _ f => f))
  have HDE := Lib.hid (decode_any A l.length c l w1 HD1.out (by have := HL4.out; omega))
  have HKL : Hid (key.length ≤ 1024) := by show _ ≤ _; omega
  have HL52 : Hid (52 ≤ l.length) := by show _ ≤ _; omega
  clear h1024
  go_wp2_with fail
  clear hk2 hl2 hb1 hk1 h52
  refine HDE.out.mono ?_
  rintro e w2 ⟨M, m0, s, rfl, hM, hM0, hM14, hone, ⟨xs, hrow, hown⟩, hu⟩
  have HU2 := Lib.hid (HU1.out.fresh hu)
  have HM := Lib.hid hM
  have HM14 := Lib.hid hM14
  have HONE := Lib.hid hone
  have HROW := Lib.hid hrow
  have HOWN := Lib.hid hown
  have HW12 : Hid (w.heap.size ≤ w1.heap.size) := HU1.out.size
  clear hM hM0 hM14 hone hrow hown hu HDE HU1 HD1
  have HUS0 : Hid (Fresh w2 ((w2.alloc (.cells ZM 27)).setRow w2.heap.size M)) := ((Upd.refl (fun _ => False) w2).alloc _).newer (T := fun k => k = w2.heap.size) ⟨rfl, rfl, rfl, by simp [World.setRow], fun k _ hk => setRow_other _ _ _ _ hk⟩ (fun k hk => by omega)
  have HUS := Lib.hid (HU2.out.fresh HUS0.out)
  cases hdl : decodeL l with
  | none =>
    rw [hdl] at HROW HOWN
    have HDL := Lib.hid hdl
    clear hdl
    go_upto_region 7 with (first
      | (refine wpList_alloc_of run_alloc27 rfl rfl ?_)
      | (refine wpList_store_row rfl 27 (.tmp 5) (.tmp 39) rfl w2.heap.size M rfl rfl 27 ZM (Blk.new _ _ _) (by rw [HM.out]; exact info27s) (by rw [HM.out]; rfl) HONE.out ?_))
    go_quiet (fail)
    go_wp2_with fail
    go_ret
    exact ⟨rfl, HUS.out.drewN _⟩
  | some ats =>
    rw [hdl] at HROW HOWN
    have HDL := Lib.hid hdl
    clear hdl
    simp only [Option.getD_some, Option.isSome_some] at HROW HOWN ⊢
    obtain ⟨A1, c1, rfl⟩ := ownsRow_slice HOWN.out
    go_upto_region 6 with (first
      | (refine wpList_alloc_of run_alloc27 rfl rfl ?_)
      | (refine wpList_store_row rfl 27 (.tmp 5) (.tmp 39) rfl w2.heap.size M rfl rfl 27 ZM (Blk.new _ _ _) (by rw [HM.out]; exact info27s) (by rw [HM.out]; rfl) HONE.out ?_))
    have HB3 : Hid (Blk ((w2.alloc (.cells ZM 27)).setRow w2.heap.size M) w2.heap.size M 27) := Blk.row (Blk.new _ _ _) _
    generalize (w2.alloc (.cells ZM 27)).setRow w2.heap.size M = w3 at *
    have HC14 : Hid (w3.cell? ⟨w2.heap.size, 14, none⟩ = some (.slice A1 ats.length c1)) := by show _ = _; rw [HB3.out.cell]; exact HM14.out
    have HOWN3 := Lib.hid (owns_upd HOWN.out HUS0.out (fun _ _ f => f) (Nat.le_refl _))
    have HD3 := Lib.hid (HD.out.upd HUS.out (fun _ _ f => f))
    have HK3 := Lib.hid (HK.out.upd HUS.out (fun _ _ f => f))
    obtain ⟨b, o, rfl, _, hlc, hcm, hby, hbl⟩ := HD3.out.addr (by have := HL52.out; omega)
    have HBY := Lib.hid hby
    have hl52 : (52 : Int) ≤ (l.length : Int) := by have := HL52.out; omega
    have hl4 : (l.length : Int) ≤ (4096 : Int) := by have := HL4.out; omega
    have c2 := hby 2 (by omega)
    have c3 := hby 3 (by omega)
    have HX2 := Lib.hid (num_two l 2 (by omega))
    generalize l[2]'(by omega) = x2 at *
    generalize l[3]'(by omega) = x3 at *
    have hx2 := I8_in x2
    have hx3 := I8_in x3
    have s1 : IntKind.i64.wrap (256 * I8 x2) = 256 * I8 x2 := by rw [IntKind.wrap_i64]; omega
    have s2 : IntKind.i64.wrap (20 + 256 * I8 x2) = 20 + 256 * I8 x2 := by rw [IntKind.wrap_i64]; omega
    have s3 : IntKind.i64.wrap (20 + 256 * I8 x2 + I8 x3) = 20 + 256 * I8 x2 + I8 x3 := by rw [IntKind.wrap_i64]; omega
    have k1 : (32 : Int) ≤ (l.length : Int) := by omega
    have k2 : (l.length : Int) - 32 ≤ (c : Int) := by omega
    have HBL := Lib.hid hbl
    clear hby hbl
    by_cases hN : l.length = 20 + num l 2 2
    · have heq := len_eq HX2.out hN
      have HNN := Lib.hid hN
      clear hN
      go_wp2_with fail
      go_quiet (fail)
      clear heq s1 s2 s3
      have HO0 := fun k => Own.empty (w3.drewN k) w3.heap.size (Nat.le_refl _)
      have HTK := Lib.hid (Bytes.take HBY.out (l.length - 32))
      go_wp2_with (at_builtin; go_must (refine wpList_app rfl (.tmp 62) (.tmp 65) rfl w3.heap.size _ _ [] (l.take (l.length - 32)) rfl (Own.empty (w3.drewN _) w3.heap.size (Nat.le_refl _)) rfl (.at_ b o (l.length - 32) c (l.take (l.length - 32)) (by simp) (by omega) hcm (HTK.out.upd ((((Upd.refl (fun _ => False) w3).drewN _)).alloc _) (fun f => f)) (by have := HBL.out; simp; omega)) (by simp; omega) (by simp) ?_))
      intro v4 w4 hown4 hgrow4
      have HO4 : Hid (Own w4 w3.heap.size v4 (l.take (l.length - 32))) := hown4
      have HU34 : Hid (Fresh w3 w4) := (((Upd.refl _ w3).drewN _).alloc _).grown hgrow4 (fun k hk hlt => by have h1 : w3.heap.size = k := Option.some.inj hk; omega)
      clear hown4 hgrow4 HO0 c2 c3
      obtain ⟨g4, cap4, cur4, rfl, hg4, hB4, hlc4, hcm4, hcs4, hct4⟩ := HO4.out.blk (by simp; omega)
      have hw : (l.take (l.length - 32)).length = l.length - 32 := by simp
      rw [hw] at hlc4 hct4
      rw [hw]
      clear hw HO4
      generalize hqq : l.length - 32 = q at *
      have hq20 : 20 ≤ q := by omega
      have HQL : Hid (l.length = q + 32) := by show _ = _; omega
      have HB4 := Lib.hid hB4
      have c42 := hB4.cell 2
      have c43 := hB4.cell 3
      have f42 := hB4.free 2
      have f43 := hB4.free 3
      rw [Array.getElem?_eq_getElem (by omega)] at c42 c43
      generalize cur4[2]'(by omega) = y2 at *
      generalize cur4[3]'(by omega) = y3 at *
      have HCT4 := Lib.hid hct4
      have HCS4 := Lib.hid hcs4
      have j2 : (2 : Int) < (q : Int) := by omega
      have j3 : (3 : Int) < (q : Int) := by omega
      have d2 : ((l.length : Int) - 32 - 20) / 256 = I8 (UInt8.ofNat ((q - 20) / 256)) := by
        rw [I8_def]; simp; omega
      have d3 : ((l.length : Int) - 32 - 20) % 256 = I8 (UInt8.ofNat (q - 20)) := by
        rw [I8_def]; simp; omega
      clear hB4 hct4 hcs4 hqq
      go_wp2_with fail
      have HB5 : Hid (Blk ((w4.setCell ⟨g4, 2, none⟩ (vb (UInt8.ofNat ((q - 20) / 256)))).setCell ⟨g4, 3, none⟩ (vb (UInt8.ofNat (q - 20)))) g4 _ 5) := (HB4.out.set 2 _).set 3 _
      have HU35 : Hid (Fresh w3 ((w4.setCell ⟨g4, 2, none⟩ (vb (UInt8.ofNat ((q - 20) / 256)))).setCell ⟨g4, 3, none⟩ (vb (UInt8.ofNat (q - 20))))) := (HU34.out.setCell (fun h => absurd h (Nat.not_lt.2 hg4)) _).setCell (fun h => absurd h (Nat.not_lt.2 hg4)) _
      generalize (w4.setCell ⟨g4, 2, none⟩ (vb (UInt8.ofNat ((q - 20) / 256)))).setCell ⟨g4, 3, none⟩ (vb (UInt8.ofNat (q - 20))) = w5 at *
      have HAL : Hid (aheadOf l = lenSet (q - 20) (l.take q)) := by
        show _ = _
        unfold aheadOf; rw [HQL.out]; congr 1
      have HAN : Hid ((aheadOf l).length = q) := by
        show _ = _
        rw [HAL.out, lenSet_length]; simp; have := HQL.out; omega
      have HA5 : Hid (Rd w5 (.slice (some ⟨g4, 0, none⟩) q cap4) (aheadOf l)) := .at_ g4 0 q cap4 _ HAN.out.symm hlc4 hcm4 (HB5.out.low (by rw [HAL.out]; exact lenSet_row HCT4.out)) HB5.out.lt
      have HDA := Lib.hid (decode_any (some ⟨g4, 0, none⟩) q cap4 (aheadOf l) w5 HA5.out (by have := HAN.out; have := HQL.out; have := HL4.out; omega))
      clear HB4 HB5 HU34 c42 c43 f42 f43 d2 d3 HTK
      refine HDA.out.mono ?_
      rintro e w6 ⟨M2, m2, s2, rfl, hM, hM0, hM14, hone, ⟨xs2, hrow, hown⟩, hu⟩
      have HU36 := Lib.hid (HU35.out.fresh hu)
      have HA6 := Lib.hid (HA5.out.upd hu (fun _ _ f => f))
      have HN := Lib.hid hM
      have HN14 := Lib.hid hM14
      have HNONE := Lib.hid hone
      have HROW2 := Lib.hid hrow
      have HOWN2 := Lib.hid hown
      have HW5 : Hid (w3.heap.size ≤ w5.heap.size) := HU35.out.size
      clear hM hM0 hM14 hone hrow hown hu HDA HU35 HA5
      have HUS6 : Hid (Fresh w6 ((w6.alloc (.cells ZM 27)).setRow w6.heap.size M2)) := ((Upd.refl (fun _ => False) w6).alloc _).newer (T := fun k => k = w6.heap.size) ⟨rfl, rfl, rfl, by simp [World.setRow], fun k _ hk => setRow_other _ _ _ _ hk⟩ (fun k hk => by omega)
      have HB7 : Hid (Blk ((w6.alloc (.cells ZM 27)).setRow w6.heap.size M2) w6.heap.size M2 27) := Blk.row (Blk.new _ _ _) _
      go_upto_region 12 with (first
        | (refine wpList_alloc_of run_alloc27 rfl rfl ?_)
        | (refine wpList_store_row rfl 27 (.tmp 9) (.tmp 81) rfl w6.heap.size M2 rfl rfl 27 ZM (Blk.new _ _ _) (by rw [HN.out]; exact info27s) (by rw [HN.out]; rfl) HNONE.out ?_))
      generalize (w6.alloc (.cells ZM 27)).setRow w6.heap.size M2 = w7 at *
      have HU37 := Lib.hid (HU36.out.fresh HUS6.out)
      have HU7 := Lib.hid (HUS.out.fresh HU37.out)
      have HA7 := Lib.hid (HA6.out.upd HUS6.out (fun _ _ f => f))
      obtain ⟨A2, c2, rfl⟩ := ownsRow_slice HOWN2.out
      have d14 : w7.cell? ⟨w6.heap.size, 14, none⟩ = some (.slice A2 ((decodeL (aheadOf l)).getD []).length c2) := by rw [HB7.out.cell]; exact HN14.out
      have e14 : w7.cell? ⟨w2.heap.size, 14, none⟩ = some (.slice A1 ats.length c1) := HU37.out.cell (fun f => f) HC14.out
      have HOA := Lib.hid (owns_upd HOWN3.out HU37.out (fun _ _ f => f) (Nat.le_refl _))
      have HOR := Lib.hid (owns_upd HOWN2.out HUS6.out (fun _ _ f => f) (Nat.le_refl _))
      clear HA6 HUS6 HU36 HB7 HOWN3 HOWN2 HC14 HN HN14 HNONE
      cases hdr : decodeL (aheadOf l) with
      | none =>
        rw [hdr] at d14
        clear hdr
        simp only [Option.isSome_none]
        go_wp2_with fail
        go_ret
        exact ⟨rfl, HU7.out⟩
      | some rest =>
      rw [hdr] at d14 HROW2 HOR
      have HDR := Lib.hid hdr
      clear hdr
      simp only [Option.getD_some, Option.isSome_some] at d14 HROW2 HOR ⊢
      have hrl : rest.length ≤ 4096 := by
        have h1 := decodeL_len HDR.out
        have h2 := HAN.out
        have h3 := HQL.out
        have h4 := HL4.out
        omega
      by_cases hk : rest.length + 2 = ats.length
      · have hkeq : ((rest.length : Int) + 2 != (ats.length : Int)) = false := by rw [bne_eq_false_iff_eq]; omega
        have HKK := Lib.hid hk
        have hi0 : (rest.length : Int) < (ats.length : Int) := by omega
        have hi1 : (rest.length : Int) + 1 < (ats.length : Int) := by omega
        obtain ⟨ga, capa, he, _, _⟩ := HOA.out.form (by omega)
        simp only [Value.slice.injEq] at he
        obtain ⟨rfl, _, rfl⟩ := he
        obtain ⟨ty1, n1, ty2, n2, P1, q1, P3, q3, htail, x0, x1, x2', x3'⟩ := tail_cells HROW.out HOA.out hk
        have HTL := Lib.hid htail
        clear htail hk
        by_cases ht1 : ty1 = 8
        rotate_left
        · have htf : (((ty1 : Nat) : Int) != 8) = true := by rw [bne_iff_ne]; omega
          clear ht1
          go_wp2_with fail
          go_ret
          exact ⟨rfl, HU7.out⟩
        subst ht1
        by_cases hn1 : n1 = 20
        rotate_left
        · have htf : (((n1 : Nat) : Int) != 20) = true := by rw [bne_iff_ne]; omega
          clear hn1
          go_wp2_with fail
          go_ret
          exact ⟨rfl, HU7.out⟩
        subst hn1
        by_cases ht2 : ty2 = 32808
        rotate_left
        · have htf : (((ty2 : Nat) : Int) != 32808) = true := by rw [bne_iff_ne]; omega
          clear ht2
          go_wp2_with fail
          go_ret
          exact ⟨rfl, HU7.out⟩
        subst ht2
        by_cases hn2 : n2 = 4
        rotate_left
        · have htf : (((n2 : Nat) : Int) != 4) = true := by rw [bne_iff_ne]; omega
          clear hn2
          go_wp2_with fail
          go_ret
          exact ⟨rfl, HU7.out⟩
        subst hn2
        rw [show ((8 : Nat) : Int) = 8 from rfl] at x0
        rw [show ((32808 : Nat) : Int) = 32808 from rfl] at x2'
        go_wp2_with fail
        clear x0 x1 x2' x3' hkeq hi0 hi1
        go_loopw [139] (fun i wr => ∃ k : Nat, k ≤ rest.length ∧ i = .int .i64 k ∧ Fresh w7 wr ∧ NoneOf (rest.take k)) (fun i _ => rest.length - (intOf i).toNat)
        case atStart => exact ⟨0, by omega, rfl, Upd.refl _ _, by simp [NoneOf]⟩
        case round =>
          obtain ⟨k, hk, rfl, hu, hno⟩ := hrel
          have HUR := Lib.hid hu
          have HNO := Lib.hid hno
          clear hu hno d14 e14
          by_cases hlt : k < rest.length
          · obtain ⟨e0, P5, q5, e1⟩ := HROW2.out.get k hlt
            obtain ⟨g, cap, he, _, _⟩ := HOR.out.form (by omega)
            simp only [Value.slice.injEq] at he
            obtain ⟨rfl, _, rfl⟩ := he
            have hf : ∀ m v, xs2[m]? = some v → wr.cell? ⟨g, m, none⟩ = some v := fun m v h => by
              have := HOR.out.cells (g := g) rfl m v h
              rw [Addr.add_lit, Nat.zero_add] at this
              exact HUR.out.cell (fun f => f) this
            have d0 : wr.cell? ⟨g, k * 2, none⟩ = some (.int .i64 ((rest[k]).1 : Nat)) := by rw [Nat.mul_comm]; exact hf _ _ e0
            have d1 : wr.cell? ⟨g, k * 2 + 1, none⟩ = some (.slice P5 (rest[k]).2.length q5) := by rw [Nat.mul_comm]; exact hf _ _ e1
            clear hf e0 e1
            have HTK : Hid (∀ t, t = (rest[k]).1 → t ≠ 8 → t ≠ 32808 → NoneOf (rest.take (k + 1))) := by
              intro t e h8 hf
              subst e
              exact noneOf_snoc rest k hlt HNO.out h8 hf
            obtain ⟨ty, hty⟩ : ∃ ty, ty = (rest[k]).1 := ⟨_, rfl⟩
            rw [← hty] at d0
            have HTY := Lib.hid hty
            clear hty
            have hki : (k : Int) < (rest.length : Int) := by omega
            by_cases h8 : ty = 8
            · have ht : (((ty : Nat) : Int) == 8) = true := by rw [beq_iff_eq]; omega
              clear h8
              go_wp2_with fail
              go_ret
              exact ⟨rfl, (HU7.out.fresh HUR.out).alloc _⟩
            · have ht : (((ty : Nat) : Int) == 8) = false := by rw [beq_eq_false_iff_ne]; omega
              by_cases hf : ty = 32808
              · have ht2 : (((ty : Nat) : Int) == 32808) = true := by rw [beq_iff_eq]; omega
                clear h8 hf
                go_wp2_with fail
                go_ret
                exact ⟨rfl, (HU7.out.fresh HUR.out).alloc _⟩
              · have ht2 : (((ty : Nat) : Int) == 32808) = false := by rw [beq_eq_false_iff_ne]; omega
                have HKN := Lib.hid (HTK.out ty HTY.out h8 hf)
                clear h8 hf
                go_wp2_with fail
                go_roundw
                case rel => exact ⟨k + 1, by omega, by go_num, HUR.out.alloc _, HKN.out⟩
                case measure => simp [intOf]; omega
          · obtain rfl : k = rest.length := by omega
            have HNR : Hid (NoneOf rest) := by have := HNO.out; rwa [List.take_length] at this
            obtain ⟨t1, t2, hc1, hc2, hcd⟩ := HCHK.out wr (HU7.out.fresh HUR.out) ats rest HDL.out HDR.out HTL.out HNR.out HNN.out HL52.out HL4.out HKL.out
            have HC1 := Lib.hid hc1
            have HC2 := Lib.hid hc2
            have HCD := Lib.hid hcd
            clear hc1 hc2 hcd
            go_upto_region 21 with fail
            go_cut [14] (fun s wx => s = .bool (t1 && t2) ∧ Fresh wr wx)
            case first =>
              go_wp2_with fail
              refine HC1.out.mono ?_
              rintro e w8 ⟨rfl, hu8⟩
              have HU8 := Lib.hid hu8
              clear hu8
              cases t1 with
              | false =>
                go_wp2_with fail
                go_meet
                exact ⟨rfl, HU8.out⟩
              | true =>
                go_wp2_with fail
                refine (HC2.out w8 HU8.out).mono ?_
                rintro e w9 ⟨rfl, hu9⟩
                have HU9 := Lib.hid (HU8.out.fresh hu9)
                clear hu9
                cases t2 with
                | false =>
                  go_wp2_with fail
                  go_meet
                  exact ⟨rfl, HU9.out⟩
                | true =>
                  go_wp2_with fail
                  go_meet
                  exact ⟨rfl, HU9.out⟩
            case rest =>
            obtain ⟨rfl, hu⟩ := hcut
            have HUC := Lib.hid hu
            clear hu HC1 HC2
            generalize (t1 && t2) = tk at *
            have HUW := Lib.hid (HU7.out.fresh (HUR.out.fresh HUC.out))
            have HUA := Lib.hid (HUR.out.fresh HUC.out)
            have HRB := Lib.hid (HD.out.upd HUW.out (fun _ _ f => f))
            have HCV : Hid (∀ w', Fresh wc w' → (convert 22 9 (.slice (some ⟨b, o, none⟩) l.length c)).run Tryz.prog w' = .ok (.string (strOf l)) w') := fun w' h => cv_any (HRB.out.upd h (fun _ _ f => f))
            have hdr : Fresh wc wc.drew := (Upd.refl _ wc).drew
            have HDRW := Lib.hid hdr
            have hal := HAN.out
            have hl4q := HL4.out
            have hlq := HQL.out
            have hkl := HKL.out
            have HSG := Lib.hid (sign_key (some ⟨g4, 0, none⟩) B q cap4 key.length ck (aheadOf l) key wc.drew ((HA7.out.upd HUA.out (fun _ _ f => f)).upd hdr (fun _ _ f => f)) ((HK.out.upd HUW.out (fun _ _ f => f)).upd hdr (fun _ _ f => f)) (by omega) (by omega) (by omega))
            have hsl := signOf_length (aheadOf l) key (by omega)
            have hsl2 : (signOf (aheadOf l) key).length ≤ 50000 ∧ 4 ≤ (signOf (aheadOf l) key).length := by omega
            have hml := markOf_length (signOf (aheadOf l) key) (by omega)
            have hml2 : 0 < (markOf (signOf (aheadOf l) key)).length := by omega
            have HMK : Hid (∀ A' c' w', Rd w' (.slice A' (signOf (aheadOf l) key).length c') (signOf (aheadOf l) key) → Calls Tryz.prog 8 #[.slice A' (signOf (aheadOf l) key).length c'] w' fun e w'' => ∃ r, e = .returned r ∧ Own w'' w'.heap.size r (markOf (signOf (aheadOf l) key)) ∧ Fresh w' w'') := fun A' c' w' h => mark_any A' _ c' _ w' h (by omega) (by omega)
            have HSL := Lib.hid (show 0 < (signOf (aheadOf l) key).length by omega)
            have HML := Lib.hid hml2
            clear hsl hsl2 hml hml2 hal hl4q hlq hkl hdr
            generalize signOf (aheadOf l) key = sg at *
            generalize markOf sg = mk at *
            have cv0 : (convert 22 9 (.slice (some ⟨b, o, none⟩) l.length c)).run Tryz.prog wc = .ok (.string (strOf l)) wc := HCV.out wc (Upd.refl _ wc)
            have hcmp : ((strOf l).toList == (strOf mk).toList) = tk := by rw [HCD.out]; exact strOf_eq l mk
            have cv1 : (convert 22 9 (.slice (some ⟨b, o, none⟩) l.length c)).run Tryz.prog wc.drew = .ok (.string (strOf l)) wc.drew := HCV.out _ HDRW.out
            go_wp2_with fail
            go_region_with (first
              | (go_at_call 9; refine HSG.out.mono ?_; rintro e w9 ⟨v9, rfl, hown9, hu9⟩; obtain ⟨g9, c9, rfl, _⟩ := hown9.form HSL.out; have q9 := HCV.out w9 (HDRW.out.fresh hu9); have HD9 := Lib.hid (Own.rd hown9); clear hown9)
              | (go_at_call 8; refine (HMK.out _ _ w9 HD9.out).mono ?_; rintro e w10 ⟨v10, rfl, hown10, hu10⟩; obtain ⟨g10, c10, rfl, _⟩ := hown10.form HML.out; have q10 := HCV.out w10 ((HDRW.out.fresh hu9).fresh hu10); have q11 := cv_any (Own.rd hown10))
              | (go_at_call 10; refine (HRT.out w10 (HUW.out.fresh ((HDRW.out.fresh hu9).fresh hu10))).mono ?_; rintro e w11 ⟨rfl, hu11⟩))
            all_goals go_wp2_with fail
            all_goals go_ret
            all_goals exact ⟨rfl, HUW.out.fresh (((HDRW.out.fresh hu9).fresh hu10).fresh hu11)⟩
      · have hkne : ((rest.length : Int) + 2 != (ats.length : Int)) = true := by rw [bne_iff_ne]; omega
        clear hk
        go_wp2_with fail
        go_ret
        exact ⟨rfl, HU7.out⟩
    · have hne := len_ne HX2.out hN
      clear hN
      go_wp2_with fail
      go_quiet (fail)
      go_wp2_with fail
      go_ret
      exact ⟨rfl, HUS.out.drewN _⟩
set_option maxRecDepth 100000 in
set_option maxHeartbeats 8000000 in
/-- The law where the bytes are an empty slice, whatever its address. -/
theorem law_empty (A B : Option Addr) (nk ck : Nat) (w : World) : Calls Tryz.prog 3 #[.slice A 0 0, .slice B nk ck] w (Yes w) := by
  have HASK := Lib.hid (isAsked_empty A w)
  by_cases hk : 2147483647 < nk
  · have hk1 : decide ((2147483647 : Int) < (nk : Int)) = true := by simp; omega
    clear hk
    go_enter Tryz.func3, Tryz.ntmps3
    go_wp2_with fail
    go_ret
    exact ⟨rfl, Upd.refl _ _⟩
  have hk1 : decide ((2147483647 : Int) < (nk : Int)) = false := by simp; omega
  clear hk
  go_enter Tryz.func3, Tryz.ntmps3
  go_wp2_with fail
  refine HASK.out.mono ?_
  rintro e w1 ⟨x, rfl, -, hu1⟩
  have HU1 := Lib.hid hu1
  clear hu1 HASK
  cases x with
  | false =>
    go_wp2_with fail
    go_ret
    exact ⟨rfl, HU1.out⟩
  | true =>
  by_cases h1024 : 1024 < nk
  · have hk2 : decide ((1024 : Int) < (nk : Int)) = true := by simp; omega
    clear h1024
    go_wp2_with fail
    go_ret
    exact ⟨rfl, HU1.out⟩
  · have hk2 : decide ((1024 : Int) < (nk : Int)) = false := by simp; omega
    clear h1024
    go_wp2_with fail
    go_ret
    exact ⟨rfl, HU1.out⟩
end Go.Proofs.YtpkipinamlbdoaaGreatDoor

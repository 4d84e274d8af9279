/-
  The walks of the library's digest: numbers stored, the sum, a new digest. Conditions: at most a million bytes.
-/
import Derived.Test.YtpkipinamlbdoaaGreatDoorIW
import Derived.Test.YtpkipinamlbdoaaGreatDoorIT
import Derived.Laws.ResultCell
namespace Go.Proofs.YtpkipinamlbdoaaGreatDoor
open Go Go.RowKit
attribute [local go_sem] I32_cvt I8_cvt I32_shr8 I32_shr16 I32_shr24

theorem put_list (l B : List UInt8) (off i : Nat) (hi : i < B.length) (h : off + i < l.length) :
    (l.take off ++ B.take i ++ l.drop (off + i)).set (off + i) B[i] = l.take off ++ B.take (i + 1) ++ l.drop (off + (i + 1)) := by
  have e1 : (l.take off ++ B.take i).length = off + i := by simp; omega
  rw [List.set_append_right _ _ (by omega), e1, Nat.sub_self]
  have e2 : l.drop (off + i) = l[off + i] :: l.drop (off + i + 1) := (List.drop_eq_getElem_cons h)
  rw [e2, List.set_cons_zero, List.take_succ_eq_append_getElem hi]
  simp only [List.append_assoc, List.cons_append, List.nil_append, Nat.add_assoc]
theorem put_start (l B : List UInt8) (off : Nat) : l.take off ++ B.take 0 ++ l.drop (off + 0) = l := by simp
theorem beB4 (x : UInt32) : beB x.toNat 4 = [(x >>> 24).toUInt8, (x >>> 16).toUInt8, (x >>> 8).toUInt8, x.toUInt8] := by
  have e : ∀ (k : Nat) (y : UInt32), y.toNat = x.toNat / 256 ^ k → UInt8.ofNat (x.toNat / 256 ^ k) = y.toUInt8 := by
    intro k y h
    apply UInt8.toNat_inj.1
    rw [UInt8.toNat_ofNat', UInt32.toNat_toUInt8, h]
  simp only [beB]
  rw [e 3 (x >>> 24) (by rw [UInt32.toNat_shiftRight]; simp [Nat.shiftRight_eq_div_pow]), e 2 (x >>> 16) (by rw [UInt32.toNat_shiftRight]; simp [Nat.shiftRight_eq_div_pow]), e 1 (x >>> 8) (by rw [UInt32.toNat_shiftRight]; simp [Nat.shiftRight_eq_div_pow]), e 0 x (by simp)]
set_option maxRecDepth 100000 in
set_option maxHeartbeats 1000000 in
theorem put32_any (x : UInt32) (g off n c : Nat) (l : List UInt8) (T : TypeId) (w : World) (hb : Blk w g (bv l).toArray T) (h4 : 4 ≤ n) (hl : off + 4 ≤ l.length) :
    Calls Tryz.prog 113 #[.slice (some ⟨g, off, none⟩) n c, vw x] w fun e w' => e = .returned (.tuple #[]) ∧ Blk w' g (bv (l.take off ++ beB x.toNat 4 ++ l.drop (off + 4))).toArray T ∧ Upd (fun k => k = g) w w' := by
  have HB : Hid (Blk w g (bv l).toArray T) := hb
  have hsz : (bv l).toArray.size = l.length := by simp
  obtain ⟨o0, g0⟩ := hb.some (j := off) (by omega)
  obtain ⟨o1, g1⟩ := hb.some (j := off + 1) (by omega)
  obtain ⟨o2, g2⟩ := hb.some (j := off + 2) (by omega)
  obtain ⟨o3, g3⟩ := hb.some (j := off + 3) (by omega)
  have f0 := hb.free off
  have f1 := hb.free (off + 1)
  have f2 := hb.free (off + 2)
  have f3 := hb.free (off + 3)
  have HL : Hid (off + 4 ≤ l.length) := hl
  clear hb hl hsz
  go_enter Tryz.func113, Tryz.ntmps113
  go_wp2
  go_end0
  refine ⟨rfl, ?_, ?_⟩
  · have hl := HL.out
    have hB : (beB x.toNat 4).length = 4 := beB_length _ _
    have k0 := put_list l (beB x.toNat 4) off 0 (by omega) (by omega)
    have k1 := put_list l (beB x.toNat 4) off 1 (by omega) (by omega)
    have k2 := put_list l (beB x.toNat 4) off 2 (by omega) (by omega)
    have k3 := put_list l (beB x.toNat 4) off 3 (by omega) (by omega)
    have e : (((l.set off (x >>> 24).toUInt8).set (off + 1) (x >>> 16).toUInt8).set (off + 2) (x >>> 8).toUInt8).set (off + 3) x.toUInt8 = l.take off ++ beB x.toNat 4 ++ l.drop (off + 4) := by
      simp only [beB4, List.getElem_cons_zero, List.getElem_cons_succ] at k0 k1 k2 k3 ⊢
      rw [put_start] at k0
      rw [Nat.add_zero] at k0
      rw [k0, k1, k2, k3]; rfl
    rw [← e, ← bv_set, ← bv_set, ← bv_set, ← bv_set]
    exact (((HB.out.set off _).set (off + 1) _).set (off + 2) _).set (off + 3) _
  · exact ((((Upd.refl (fun k => k = g) w).setCell (p := ⟨g, off, none⟩) (fun _ => rfl) _).setCell (p := ⟨g, off + 1, none⟩) (fun _ => rfl) _).setCell (p := ⟨g, off + 2, none⟩) (fun _ => rfl) _).setCell (p := ⟨g, off + 3, none⟩) (fun _ => rfl) _
set_option maxRecDepth 100000 in
set_option maxHeartbeats 1000000 in
theorem put64_any (N : Nat) (g off n c : Nat) (l : List UInt8) (T : TypeId) (w : World) (hb : Blk w g (bv l).toArray T) (h8 : 8 ≤ n) (hl : off + 8 ≤ l.length) (_hN : N < 2 ^ 60) :
    Calls Tryz.prog 112 #[.slice (some ⟨g, off, none⟩) n c, .int .u64 N] w fun e w' => e = .returned (.tuple #[]) ∧ Blk w' g (bv (l.take off ++ beB N 8 ++ l.drop (off + 8))).toArray T ∧ Upd (fun k => k = g) w w' := by
  have HB : Hid (Blk w g (bv l).toArray T) := hb
  have hsz : (bv l).toArray.size = l.length := by simp
  obtain ⟨o7, g7⟩ := hb.some (j := off + 7) (by omega)
  have HL : Hid (off + 8 ≤ l.length) := hl
  clear hb hl hsz
  go_enter Tryz.func112, Tryz.ntmps112
  go_wp2
  go_loopw [4] (fun i wr => ∃ k : Nat, k ≤ 8 ∧ i = .int .i64 k ∧ Blk wr g (bv (l.take off ++ (beB N 8).take k ++ l.drop (off + k))).toArray T ∧ Upd (fun k => k = g) w wr) (fun i _ => 8 - (intOf i).toNat)
  case atStart => exact ⟨0, by omega, rfl, by rw [put_start]; exact HB.out, Upd.refl _ _⟩
  case round =>
    obtain ⟨k, hk, rfl, hb, hu⟩ := hrel
    have HB2 : Hid (Blk wr g (bv (l.take off ++ (beB N 8).take k ++ l.drop (off + k))).toArray T) := hb
    have HU : Hid (Upd (fun k => k = g) w wr) := hu
    clear hu g7
    by_cases hlt : k < 8
    · have hl := HL.out
      have hB : (beB N 8).length = 8 := beB_length _ _
      obtain ⟨ok, gk⟩ := hb.some (j := off + k) (by simp; omega)
      have fk := hb.free (off + k)
      have HP : Hid _ := put_list l (beB N 8) off k (by omega) (by omega)
      have HG : Hid ((beB N 8)[k]'(by omega) = UInt8.ofNat (N / 256 ^ (7 - k))) := by show _ = _; rw [beB_get]
      have hsh : (56 - 8 * (k : Int)) = ((8 * (7 - k) : Nat) : Int) := by omega
      obtain ⟨s8, hs8⟩ : ∃ s, s = 8 * (7 - k) := ⟨_, rfl⟩
      have hv : (N : Int) / 2 ^ s8 % 256 = I8 (UInt8.ofNat (N / 256 ^ (7 - k))) := by rw [hs8]; exact shr_byte N (7 - k)
      rw [← hs8] at hsh
      have hs64 : s8 ≤ 64 := by omega
      clear hs8 hl hb
      generalize UInt8.ofNat (N / 256 ^ (7 - k)) = x at *
      go_wp2
      go_roundw
      case rel =>
        refine ⟨k + 1, by omega, by go_num, ?_, HU.out.setCell (fun _ => rfl) _⟩
        rw [← HP.out, HG.out, ← bv_set]
        exact HB2.out.set _ _
      case measure => simp [intOf]; omega
    · obtain rfl : k = 8 := by omega
      clear hb
      go_wp2
      go_end0
      refine ⟨rfl, ?_, HU.out⟩
      have e : (beB N 8).take 8 = beB N 8 := List.take_of_length_le (by rw [beB_length]; omega)
      have := HB2.out
      rwa [e] at this
def ZD : Array Value := #[.int .u32 0, .int .u32 0, .int .u32 0, .int .u32 0, .int .u32 0] ++ Zb 64 ++ #[.int .i64 0, .int .u64 0]
theorem ZD_eq : ZD = digv ⟨0, 0, 0, 0, 0⟩ (List.replicate 64 0) 0 0 := by
  have h32 : I32 0 = 0 := by rw [I32_def]; rfl
  have h8 : I8 0 = 0 := by rw [I8_def]; rfl
  simp [ZD, digv, digL, bv, Zb, vw, h32, h8]
theorem run_alloc115 (w : World) : (Instr.alloc 115 true (.tuple #[])).run Tryz.prog w = .ok (.pointer (some ⟨w.heap.size, 0, none⟩)) (w.alloc (.cells ZD 115)) := by kernel_rfl
theorem digv_nil (x : List UInt8) (hx : x.length = 64) (w : World) (g : Nat) (hb : Blk w g (digv H0 x 0 0) 115) : Dig w g [] := ⟨x, hx, by rw [waits_nil]; rfl, by rw [stOf_nil]; exact hb⟩
theorem H0_words : (Value.int .u32 1732584193 = vw H0.a) ∧ (Value.int .u32 4023233417 = vw H0.b) ∧ (Value.int .u32 2562383102 = vw H0.c) ∧ (Value.int .u32 271733878 = vw H0.d) ∧ (Value.int .u32 3285377520 = vw H0.e) := by
  simp [H0, I32_def]
set_option maxRecDepth 100000 in
set_option maxHeartbeats 1000000 in
theorem reset_any (g : Nat) (s : S5) (x : List UInt8) (nx len : Nat) (w : World) (hx : x.length = 64) (hb : Blk w g (digv s x nx len) 115) :
    Calls Tryz.prog 60 #[.pointer (some ⟨g, 0, none⟩)] w fun e w' => e = .returned (.tuple #[]) ∧ Dig w' g [] ∧ Upd (fun k => k = g) w w' := by
  have HB : Hid (Blk w g (digv s x nx len) 115) := hb
  have HX : Hid (x.length = 64) := hx
  have hsz : (digv s x nx len).size = 71 := digv_size _ _ _ _ hx
  obtain ⟨o0, g0⟩ := hb.some (j := 0) (by omega)
  obtain ⟨o1, g1⟩ := hb.some (j := 1) (by omega)
  obtain ⟨o2, g2⟩ := hb.some (j := 2) (by omega)
  obtain ⟨o3, g3⟩ := hb.some (j := 3) (by omega)
  obtain ⟨o4, g4⟩ := hb.some (j := 4) (by omega)
  obtain ⟨o5, g5⟩ := hb.some (j := 69) (by omega)
  obtain ⟨o6, g6⟩ := hb.some (j := 70) (by omega)
  have f0 := hb.free 0
  have f1 := hb.free 1
  have f2 := hb.free 2
  have f3 := hb.free 3
  have f4 := hb.free 4
  have f5 := hb.free 69
  have f6 := hb.free 70
  clear hb hx hsz
  go_enter Tryz.func60, Tryz.ntmps60
  go_wp2
  go_end0
  refine ⟨rfl, ?_, ?_⟩
  · refine digv_nil x HX.out _ g ?_
    have h := ((((((HB.out.set 0 (vw H0.a)).set 1 (vw H0.b)).set 2 (vw H0.c)).set 3 (vw H0.d)).set 4 (vw H0.e)).set 69 (.int .i64 ((0 : Nat) : Int))).set 70 (.int .u64 ((0 : Nat) : Int))
    rw [digv_set_h, digv_set_nx _ _ _ _ _ HX.out, digv_set_len _ _ _ _ _ HX.out] at h
    obtain ⟨ea, eb, ec, ed, ee⟩ := H0_words
    rw [ea, eb, ec, ed, ee]
    exact h
  · exact (((((((Upd.refl (fun k => k = g) w).setCell (p := ⟨g, 0, none⟩) (fun _ => rfl) _).setCell (p := ⟨g, 1, none⟩) (fun _ => rfl) _).setCell (p := ⟨g, 2, none⟩) (fun _ => rfl) _).setCell (p := ⟨g, 3, none⟩) (fun _ => rfl) _).setCell (p := ⟨g, 4, none⟩) (fun _ => rfl) _).setCell (p := ⟨g, 69, none⟩) (fun _ => rfl) _).setCell (p := ⟨g, 70, none⟩) (fun _ => rfl) _
theorem new_any (w : World) : Calls Tryz.prog 44 #[] w fun e w' => ∃ g, e = .returned (.pointer (some ⟨g, 0, none⟩)) ∧ w.heap.size ≤ g ∧ Dig w' g [] ∧ Fresh w w' := by
  go_enter Tryz.func44, Tryz.ntmps44
  go_wp2_with (first | (refine wpList_alloc_of run_alloc115 rfl rfl ?_) | fail)
  have hb : Blk (w.alloc (.cells ZD 115)) w.heap.size (digv ⟨0, 0, 0, 0, 0⟩ (List.replicate 64 0) 0 0) 115 := by rw [← ZD_eq]; exact Blk.new _ _ _
  refine (reset_any w.heap.size _ _ _ _ _ (by simp) hb).mono ?_
  rintro e w1 ⟨rfl, hd, hu⟩
  have HD : Hid (Dig w1 w.heap.size []) := hd
  have HU : Hid (Fresh w w1) := ((Upd.refl (fun _ => False) w).alloc _).newer hu (fun k e => by omega)
  clear hd hu hb
  go_wp2
  go_ret
  exact ⟨w.heap.size, rfl, Nat.le_refl _, HD.out, HU.out⟩
theorem blocksize_any (v : Value) (w : World) : Calls Tryz.prog 99 #[v] w fun e w' => e = .returned (.int .i64 64) ∧ w = w' := by
  go_enter Tryz.func99, Tryz.ntmps99
  go_wp2
  go_ret
  exact ⟨rfl, rfl⟩
end Go.Proofs.YtpkipinamlbdoaaGreatDoor

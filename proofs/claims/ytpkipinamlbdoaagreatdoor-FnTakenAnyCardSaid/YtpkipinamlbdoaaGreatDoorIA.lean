/-
  The walks of the library's small functions: numbers of bytes, sizes, comparisons. Conditions: what is indexed is there.
-/
import Derived.Test.YtpkipinamlbdoaaGreatDoorWN
import Derived.Test.YtpkipinamlbdoaaGreatDoorS
import Derived.Test.YtpkipinamlbdoaaGreatDoorP
import Derived.Deep.RegionHeld3
import Derived.Laws.ResultCell
namespace Go.Proofs.YtpkipinamlbdoaaGreatDoor
open Go Go.RowKit
attribute [local go_sem] I32_cvt I8_cvt I32_add I32_and I32_or I32_xor I8_xor I32_shl8 I32_shl16 I32_shl24 I32_beq

theorem load77 (w : World) (a : Addr) : (loadVar 77 a).run Tryz.prog w = .ok (.agg #[]) w := by kernel_rfl
theorem I8_16 (x : UInt8) : I8 x % (65536 : Int) = I8 x := by
  have := I8_nonneg x; have := I8_lt x; omega
theorem wraps_u16 (n : Int) (h₀ : 0 ≤ n) (h₁ : n < 2 ^ 16) : IntKind.u16.wrap n = n := by rw [IntKind.wrap_u16]; omega
theorem bits_or_comm (k : IntKind) (a b : Int) : bits .or k a b = bits .or k b a := by
  simp only [bits, BitVec.or_comm]
theorem or16 (x y : UInt8) : bits .or .u16 (I8 y) (I8 x * 256) = ((beN [x, y] : Nat) : Int) := by
  have := I8_nonneg x; have := I8_lt x; have := I8_nonneg y; have := I8_lt y
  rw [bits_or_comm, show (256 : Int) = 2 ^ 8 by rfl, bits_join .u16 16 (by decide) wraps_u16 8 _ _ (by omega) (by omega) (by omega) (by omega) (by omega) (by omega)]
  simp [I8_def, beN]
theorem u16_any (x y : UInt8) (b o n c : Nat) (w : World) (h2 : 2 ≤ n) 
    (h0 : w.cell? ⟨b, o, none⟩ = some (vb x)) (h1 : w.cell? ⟨b, o + 1, none⟩ = some (vb y)) :
    Calls Tryz.prog 51 #[.agg #[], .slice (some ⟨b, o, none⟩) n c] w fun e w' => e = .returned (.int .u16 (beN [x, y] : Nat)) ∧ Fresh w w' := by
  have hx := I8_16 x
  have hy := I8_16 y
  have h0' := ((Upd.refl (fun _ => False) w).alloc (.cells #[] 77)).cell (fun f => f) h0
  have h1' := ((Upd.refl (fun _ => False) w).alloc (.cells #[] 77)).cell (fun f => f) h1
  have hor := or16 x y
  have := I8_nonneg x; have := I8_lt x
  go_enter Tryz.func51, Tryz.ntmps51
  go_wp2
  go_quiet (fail)
  go_wp2
  go_ret
  exact ⟨rfl, (((Upd.refl _ _).alloc _).drewN nq)⟩
theorem or4 (a b c d : UInt32) : a ||| b ||| c ||| d = d ||| c ||| b ||| a := by ac_rfl
theorem or_be32 (x0 x1 x2 x3 : UInt8) : x3.toUInt32 ||| x2.toUInt32 <<< 8 ||| x1.toUInt32 <<< 16 ||| x0.toUInt32 <<< 24 = be32 x0 x1 x2 x3 := by
  unfold be32; exact or4 _ _ _ _
theorem u32_any (x0 x1 x2 x3 : UInt8) (b o n c : Nat) (w : World) (hn4 : 4 ≤ n)
    (h0 : w.cell? ⟨b, o, none⟩ = some (vb x0)) (h1 : w.cell? ⟨b, o + 1, none⟩ = some (vb x1)) (h2 : w.cell? ⟨b, o + 2, none⟩ = some (vb x2)) (h3 : w.cell? ⟨b, o + 3, none⟩ = some (vb x3)) :
    Calls Tryz.prog 31 #[.agg #[], .slice (some ⟨b, o, none⟩) n c] w fun e w' => e = .returned (.int .u32 (I32 (be32 x0 x1 x2 x3))) ∧ Fresh w w' := by
  have h0' := ((Upd.refl (fun _ => False) w).alloc (.cells #[] 77)).cell (fun f => f) h0
  have h1' := ((Upd.refl (fun _ => False) w).alloc (.cells #[] 77)).cell (fun f => f) h1
  have h2' := ((Upd.refl (fun _ => False) w).alloc (.cells #[] 77)).cell (fun f => f) h2
  have h3' := ((Upd.refl (fun _ => False) w).alloc (.cells #[] 77)).cell (fun f => f) h3
  go_enter Tryz.func31, Tryz.ntmps31
  go_wp2
  go_quiet (fail)
  go_wp2
  go_ret
  exact ⟨congrArg (fun z => Ending.returned (.int .u32 (I32 z))) (or_be32 x0 x1 x2 x3), (((Upd.refl _ _).alloc _).drewN nq)⟩
/-- PutUint16. -/
theorem shr16_8 (N : Nat) (h : N < 65536) : (N : Int) / 256 = I8 (UInt8.ofNat (N / 256)) := by
  rw [I8_def, UInt8.toNat_ofNat']; omega
theorem cvt16_8 (N : Nat) : (N : Int) % 256 = I8 (UInt8.ofNat N) := by
  rw [I8_def, UInt8.toNat_ofNat']; omega
theorem beB2 (N : Nat) : beB N 2 = [UInt8.ofNat (N / 256), UInt8.ofNat N] := by simp [beB]
theorem put16_any (N : Nat) (hN : N < 65536) (g off n c : Nat) (cur : Array Value) (T : TypeId) (w : World) (h2 : 2 ≤ n) (hb : Blk w g cur T) (hs : off + 2 ≤ cur.size) :
    Calls Tryz.prog 42 #[.agg #[], .slice (some ⟨g, off, none⟩) n c, .int .u16 N] w fun e w' => e = .returned (.tuple #[]) ∧ 
      Blk w' g ((cur.setIfInBounds off (vb (UInt8.ofNat (N / 256)))).setIfInBounds (off + 1) (vb (UInt8.ofNat N))) T ∧ Upd (fun k => k = g) w w' := by
  have hb' : Blk (w.alloc (.cells #[] 77)) g cur T := hb.alloc _
  obtain ⟨v0, h0⟩ := hb'.some (j := off) (by omega)
  obtain ⟨v1, h1⟩ := hb'.some (j := off + 1) (by omega)
  have f0 := hb'.free off
  have f1 := hb'.free (off + 1)
  have e1 := shr16_8 N hN
  have e2 := cvt16_8 N
  have HB : Hid (Blk (w.alloc (.cells #[] 77)) g cur T) := hb'
  have HU : Hid (Fresh w (w.alloc (.cells #[] 77))) := (Upd.refl _ _).alloc _
  clear hb hb' hs
  go_enter Tryz.func42, Tryz.ntmps42
  go_wp2
  go_end0
  refine ⟨rfl, (HB.out.set _ _).set _ _, ?_⟩
  have hu : Upd (fun k => k = g) w (w.alloc (.cells #[] 77)) := HU.out.mono (fun _ _ f => f.elim)
  exact Upd.setCell (S := fun k => k = g) (Upd.setCell (S := fun k => k = g) hu (p := ⟨g, off, none⟩) (fun _ => rfl) _) (p := ⟨g, off + 1, none⟩) (fun _ => rfl) _
/-- How far a value reaches that is filled up to whole words. -/
theorem pad4_any (n : Nat) (w : World) (hn : n ≤ 100000) : Calls Tryz.prog 26 #[.int .i64 n] w fun e w' => e = .returned (.int .i64 ((n + 3) / 4 * 4 : Nat)) ∧ w = w' := by
  by_cases h : (n : Int) / 4 * 4 < n
  · have h' : (4 : Int) * ((n : Int) / 4) < n := by omega
    go_enter Tryz.func26, Tryz.ntmps26
    go_wp2
    go_ret
    refine ⟨congrArg (fun z => Ending.returned (.int .i64 z)) ?_, rfl⟩; first | omega | (simp; omega)
  · have h' : ¬ (4 : Int) * ((n : Int) / 4) < n := by omega
    go_enter Tryz.func26, Tryz.ntmps26
    go_wp2
    go_ret
    refine ⟨congrArg (fun z => Ending.returned (.int .i64 z)) ?_, rfl⟩; first | omega | (simp; omega)
/-- The type, the elder number of one turned. -/
def compat (n : Nat) : Nat := if n = 32800 then 32 else n
theorem compat_any (n : Nat) (w : World) : Calls Tryz.prog 55 #[.int .u16 n] w fun e w' => e = .returned (.int .u16 (compat n : Nat)) ∧ w = w' := by
  by_cases h : n = 32800
  · subst h
    go_enter Tryz.func55, Tryz.ntmps55
    go_wp2
    go_ret
    exact ⟨rfl, rfl⟩
  · have h1 : ((n : Int) == 32800) = false := by rw [beq_eq_false_iff_ne]; omega
    have HC : Hid (compat n = n) := by show _ = _; unfold compat; rw [if_neg h]
    go_enter Tryz.func55, Tryz.ntmps55
    go_wp2
    go_ret
    exact ⟨by rw [HC.out]; rfl, rfl⟩
/-- ReadValue: what it writes is not told. -/
theorem readv_any (n : Nat) (g : Nat) (cur : Array Value) (T : TypeId) (w : World) (hb : Blk w g cur T) (hs : 2 ≤ cur.size) :
    Calls Tryz.prog 54 #[.pointer (some ⟨g, 0, none⟩), .int .u16 n] w fun e w' => e = .returned (.tuple #[]) ∧
      ∃ v0 v1 : Int, Blk w' g ((cur.setIfInBounds 1 (.int .u8 v1)).setIfInBounds 0 (.int .u16 v0)) T ∧ Upd (fun k => k = g) w w' := by
  obtain ⟨v0, h0⟩ := hb.some (j := 0) (by omega)
  obtain ⟨v1, h1⟩ := hb.some (j := 1) (by omega)
  have f0 := hb.free 0
  have f1 := hb.free 1
  have HB : Hid (Blk w g cur T) := hb
  clear hb hs
  go_enter Tryz.func54, Tryz.ntmps54
  go_wp2
  go_end0
  refine ⟨rfl, _, _, (HB.out.set _ _).set _ _, ?_⟩
  exact Upd.setCell (S := fun k => k = g) (Upd.setCell (S := fun k => k = g) (Upd.refl _ w) (p := ⟨g, 1, none⟩) (fun _ => rfl) _) (p := ⟨g, 0, none⟩) (fun _ => rfl) _
theorem run_bool8 (x : Bool) (w : World) : (callFunc 66 #[.bool x]).run Tryz.prog w = .ok (.value (.int .u8 (if x then 1 else 0))) w := by
  cases x <;> kernel_rfl
def eqz (x : UInt8) : Int := if x = 0 then 1 else 0
theorem byteEq_any (x : UInt8) (w : World) : Calls Tryz.prog 63 #[vb x, .int .u8 0] w fun e w' => e = .returned (.int .i64 (eqz x)) ∧ w = w' := by
  by_cases h : x = 0
  · subst h
    have hx : vb 0 = .int .u8 0 := by show Value.int .u8 (I8 0) = _; rw [I8_def]; rfl
    have hr := run_bool8 true
    rw [hx]
    clear hx
    go_enter Tryz.func63, Tryz.ntmps63
    go_wp2
    go_ret
    exact ⟨rfl, rfl⟩
  · have hx : (I8 x == 0) = false := by
      rw [beq_eq_false_iff_ne]; intro e; apply h
      rw [I8_def] at e; exact UInt8.toNat_inj.1 (by simpa using e)
    have HX : Hid (eqz x = 0) := by show _ = _; unfold eqz; rw [if_neg h]
    clear h
    have hr := run_bool8 false
    go_enter Tryz.func63, Tryz.ntmps63
    go_wp2
    go_ret
    exact ⟨by rw [HX.out]; rfl, rfl⟩
def orAll : UInt8 → List UInt8 → List UInt8 → UInt8
  | v, x :: xs, y :: ys => orAll (v ||| (x ^^^ y)) xs ys
  | v, _, _ => v
theorem or_zero (a b : UInt8) : a ||| b = 0 ↔ a = 0 ∧ b = 0 := by
  constructor
  · intro h
    constructor
    · apply UInt8.toBitVec_inj.1; apply BitVec.eq_of_getLsbD_eq; intro i _
      have := congrArg (fun z : UInt8 => z.toBitVec.getLsbD i) h
      simp only [UInt8.toBitVec_or, BitVec.getLsbD_or] at this
      revert this; cases a.toBitVec.getLsbD i <;> cases b.toBitVec.getLsbD i <;> simp
    · apply UInt8.toBitVec_inj.1; apply BitVec.eq_of_getLsbD_eq; intro i _
      have := congrArg (fun z : UInt8 => z.toBitVec.getLsbD i) h
      simp only [UInt8.toBitVec_or, BitVec.getLsbD_or] at this
      revert this; cases a.toBitVec.getLsbD i <;> cases b.toBitVec.getLsbD i <;> simp
  · rintro ⟨rfl, rfl⟩; rfl
theorem xor_zero (a b : UInt8) : a ^^^ b = 0 ↔ a = b := by
  constructor
  · intro h
    apply UInt8.toBitVec_inj.1; apply BitVec.eq_of_getLsbD_eq; intro i _
    have := congrArg (fun z : UInt8 => z.toBitVec.getLsbD i) h
    simp only [UInt8.toBitVec_xor, BitVec.getLsbD_xor] at this
    revert this; cases a.toBitVec.getLsbD i <;> cases b.toBitVec.getLsbD i <;> simp
  · rintro rfl; simp
theorem orAll_zero : ∀ (l m : List UInt8) (v : UInt8), l.length = m.length → (orAll v l m = 0 ↔ v = 0 ∧ l = m)
  | [], [], v, _ => by simp [orAll]
  | [], y :: m, v, h => by simp at h
  | x :: l, [], v, h => by simp at h
  | x :: l, y :: m, v, h => by
    rw [orAll, orAll_zero l m _ (by simpa using h), or_zero, xor_zero]
    constructor
    · rintro ⟨⟨h1, rfl⟩, rfl⟩; exact ⟨h1, rfl⟩
    · rintro ⟨h1, h2⟩; injection h2 with h2 h3; exact ⟨⟨h1, h2⟩, h3⟩
theorem orAll_snoc : ∀ (l m : List UInt8) (v x y : UInt8), l.length = m.length → orAll v (l ++ [x]) (m ++ [y]) = orAll v l m ||| (x ^^^ y)
  | [], [], v, x, y, _ => by simp [orAll]
  | [], y :: m, v, _, _, h => by simp at h
  | x :: l, [], v, _, _, h => by simp at h
  | a :: l, b :: m, v, x, y, h => by
    simp only [List.cons_append, orAll]; exact orAll_snoc l m _ x y (by simpa using h)
theorem orAll_take (l m : List UInt8) (k : Nat) (hk : k < l.length) (h : l.length = m.length) : orAll 0 (l.take (k + 1)) (m.take (k + 1)) = orAll 0 (l.take k) (m.take k) ||| (l[k] ^^^ m[k]'(by omega)) := by
  rw [List.take_succ_eq_append_getElem hk, List.take_succ_eq_append_getElem (by omega), orAll_snoc _ _ _ _ _ (by simp [h])]
theorem ctc_any (l m : List UInt8) (b o n c b' o' n' c' : Nat) (w : World) (hn : n = l.length) (hn' : n' = m.length) (h : n = n') (hm : n ≤ 1000000) (hl : Bytes w b o l) (hl' : Bytes w b' o' m) :
    Calls Tryz.prog 61 #[.slice (some ⟨b, o, none⟩) n c, .slice (some ⟨b', o', none⟩) n' c'] w fun e w' => e = .returned (.int .i64 (eqz (orAll 0 l m))) ∧ ∃ k, w' = w.drewN k := by
  have HN : Hid (n = l.length) := hn
  have HN' : Hid (n = m.length) := h.trans hn'
  have HL : Hid (Bytes w b o l) := hl
  have HL' : Hid (Bytes w b' o' m) := hl'
  subst h
  clear hn hn' hl hl'
  go_enter Tryz.func61, Tryz.ntmps61
  go_wp2
  go_loopw [5, 6] (fun v i wr => ∃ k : Nat, k ≤ n ∧ i = .int .i64 k ∧ v = vb (orAll 0 (l.take k) (m.take k)) ∧ ∃ j, wr = w.drewN j) (fun _ i _ => n - (intOf i).toNat)
  case atStart => exact ⟨0, by omega, rfl, by show _ = Value.int .u8 (I8 _); rw [I8_def]; rfl, 0, rfl⟩
  case round =>
    obtain ⟨k, hk, rfl, rfl, j, rfl⟩ := hrel
    by_cases hlt : k < n
    · have hkl : k < l.length := by have := HN.out; omega
      have hkm : k < m.length := by have := HN'.out; omega
      have c0 := HL.out k hkl
      have c1 := HL'.out k hkm
      have HX : Hid _ := orAll_take l m k hkl (by have := HN.out; have := HN'.out; omega)
      generalize orAll 0 (l.take k) (m.take k) = v at *
      generalize l[k] = x at *
      generalize m[k] = y at *
      have hk0 : (k : Int) < (n : Int) := by omega
      go_wp2
      go_quiet (fail)
      go_wp2
      go_roundw
      case rel => exact ⟨k + 1, by omega, by go_num, by rw [HX.out, I8_or], _, rfl⟩
      case measure => simp [intOf]; omega
    · have e1 : l.take k = l := List.take_of_length_le (by have := HN.out; omega)
      have e2 : m.take k = m := List.take_of_length_le (by have := HN'.out; omega)
      rw [e1, e2]
      clear e1 e2
      go_wp2_with fail
      refine (byteEq_any _ _).mono ?_
      rintro e w' ⟨rfl, rfl⟩
      go_wp2
      go_ret
      exact ⟨rfl, j, rfl⟩
theorem ctc2_any (l m : List UInt8) (b o n c b' o' n' c' : Nat) (w : World) (hn : n = l.length) (hn' : n' = m.length) (h : n = n') (hm : n ≤ 1000000) (hl : Bytes w b o l) (hl' : Bytes w b' o' m) :
    Calls Tryz.prog 47 #[.slice (some ⟨b, o, none⟩) n c, .slice (some ⟨b', o', none⟩) n' c'] w fun e w' => e = .returned (.int .i64 (eqz (orAll 0 l m))) ∧ ∃ k, w' = w.drewN k := by
  have HC : Hid _ := ctc_any l m b o n c b' o' n' c' w hn hn' h hm hl hl'
  clear hn hn' h hm hl hl'
  go_enter Tryz.func47, Tryz.ntmps47
  go_wp2_with fail
  refine Calls.mono HC.out ?_
  rintro e w1 ⟨rfl, k, rfl⟩
  go_wp2
  go_ret
  exact ⟨rfl, k, rfl⟩
/-- What checkHMAC answers. -/
def same (l m : List UInt8) (v : Value) : Value := if l = m then .nilIface else v
theorem checkHMAC_any (l m : List UInt8) (b o n c b' o' n' c' : Nat) (v : Value) (w : World) (hn : n = l.length) (hn' : n' = m.length) (h : n = n') (hm : n ≤ 1000000) (hl : Bytes w b o l) (hl' : Bytes w b' o' m) (hv : w.cell? ⟨1, 0, none⟩ = some v) :
    Calls Tryz.prog 29 #[.slice (some ⟨b, o, none⟩) n c, .slice (some ⟨b', o', none⟩) n' c'] w fun e w' => e = .returned (same l m v) ∧ ∃ k, w' = w.drewN k := by
  have HC : Hid _ := ctc2_any l m b o n c b' o' n' c' w hn hn' h hm hl hl'
  have hz : orAll 0 l m = 0 ↔ l = m := by rw [orAll_zero l m 0 (by omega)]; simp
  by_cases he : l = m
  · have e1 : eqz (orAll 0 l m) = 1 := by unfold eqz; rw [if_pos (hz.2 he)]
    have HE : Hid (same l m v = .nilIface) := by show _ = _; unfold same; rw [if_pos he]
    rw [e1] at HC
    clear hn hn' h hm hl hl' hz he e1
    go_enter Tryz.func29, Tryz.ntmps29
    go_wp2_with fail
    refine Calls.mono HC.out ?_
    rintro e w1 ⟨rfl, k, rfl⟩
    go_wp2
    go_ret
    exact ⟨by rw [HE.out]; rfl, k, rfl⟩
  · have e1 : eqz (orAll 0 l m) = 0 := by unfold eqz; rw [if_neg (fun e => he (hz.1 e))]
    have HE : Hid (same l m v = v) := by show _ = _; unfold same; rw [if_neg he]
    rw [e1] at HC
    clear hn hn' h hm hl hl' hz he e1
    go_enter Tryz.func29, Tryz.ntmps29
    go_wp2_with fail
    refine Calls.mono HC.out ?_
    rintro e w1 ⟨rfl, k, rfl⟩
    go_wp2
    go_ret
    exact ⟨by rw [HE.out]; rfl, k, rfl⟩
def sameW (x y : UInt32) (v : Value) : Value := if x = y then .nilIface else v
theorem checkFp_any (x y : UInt32) (v : Value) (w : World) (hv : w.cell? ⟨2, 0, none⟩ = some v) :
    Calls Tryz.prog 33 #[vw x, vw y] w fun e w' => e = .returned (sameW x y v) ∧ w = w' := by
  by_cases he : x = y
  · have e1 : (I32 x == I32 y) = true := by rw [I32_beq]; simpa using he
    have HE : Hid (sameW x y v = .nilIface) := by show _ = _; unfold sameW; rw [if_pos he]
    clear he
    go_enter Tryz.func33, Tryz.ntmps33
    go_wp2
    go_ret
    exact ⟨by rw [HE.out]; rfl, rfl⟩
  · have e1 : (I32 x == I32 y) = false := by rw [I32_beq]; simpa using he
    have HE : Hid (sameW x y v = v) := by show _ = _; unfold sameW; rw [if_neg he]
    clear he
    go_enter Tryz.func33, Tryz.ntmps33
    go_wp2
    go_ret
    exact ⟨by rw [HE.out]; rfl, rfl⟩
theorem checkSize_any (t : Value) (w : World) : Calls Tryz.prog 30 #[t, .int .i64 4, .int .i64 4] w fun e w' => e = .returned .nilIface ∧ w = w' := by
  go_enter Tryz.func30, Tryz.ntmps30
  go_wp2
  go_ret
  exact ⟨rfl, rfl⟩
theorem copied_any (A : Option Addr) (n c : Nat) (l : List UInt8) (w : World) (hd : Rd w (.slice A n c) l) (hlen : l.length ≤ 1000000) :
    Calls Tryz.prog 15 #[.slice A n c] w fun e w' => ∃ r, e = .returned r ∧ Own w' w.heap.size r l ∧ Fresh w w' := by
  have HD : Hid (Rd w (.slice A n c) l) := hd
  obtain rfl := hd.len
  have HO : Hid (Own w w.heap.size (.slice none 0 0) []) := ⟨rfl, .inl ⟨rfl, rfl⟩⟩
  clear hd
  go_enter Tryz.func15, Tryz.ntmps15
  go_wp2_with (at_builtin; go_must (refine wpList_app rfl (.const (.slice none 0 0)) (.tmp 3) rfl w.heap.size _ _ [] l rfl HO.out rfl HD.out (by simp; omega) (Nat.le_refl _) ?_))
  intro v w1 hown hgrow
  have HO1 : Hid (Own w1 w.heap.size v l) := by show Own _ _ _ _; simpa using hown
  have HU1 : Hid (Fresh w w1) := (Upd.refl (fun _ => False) w).grown hgrow (fun k hk _ => by cases hk)
  clear hown hgrow
  go_wp2
  go_ret
  exact ⟨_, rfl, HO1.out, HU1.out⟩
end Go.Proofs.YtpkipinamlbdoaaGreatDoor

/-
  What the loops of the SHA-1 block step keep, and their bodies. No condition.
-/
import Derived.Test.YtpkipinamlbdoaaGreatDoorWS
import Derived.BigRegion
namespace Go.Proofs.YtpkipinamlbdoaaGreatDoor
open Go Go.RowKit
attribute [local go_sem] I32_cvt I8_cvt I32_add I32_and I32_or I32_xor I8_xor I32_notm I32_shl8 I32_shl16 I32_shl24 I32_k1 I32_k2 I32_k3 I32_k4

theorem and15 (n : Nat) (h : n < 2 ^ 62) : bits .and .i64 (n : Int) 15 = ((n % 16 : Nat) : Int) := by
  have := (bits_nat .i64 63 (by decide) wraps_i64 n 15 (by omega) (by omega)).1
  rw [show (15 : Int) = ((15 : Nat) : Int) by rfl, this]
  congr 1
  exact Nat.and_two_pow_sub_one_eq_mod n 4
/-- The last sixteen words. -/
def win (m : List UInt32) (t : Nat) (cur : Array Value) : Prop := ∀ u, u < max t 16 → t ≤ u + 16 → cur[u % 16]? = some (vw (Wt m u))
theorem win.step {m : List UInt32} {t : Nat} {cur : Array Value} (h : win m t cur) (h16 : 16 ≤ t) (hs : cur.size = 16) {v : Value} (hv : v = vw (Wt m t)) : win m (t + 1) (cur.setIfInBounds (t % 16) v) := by
  intro u hu hl
  by_cases e : u = t
  · subst e; subst hv; simp [hs, Nat.mod_lt]
  · rw [Array.getElem?_setIfInBounds_ne (by omega)]; exact h u (by omega) (by omega)
theorem win.low {m : List UInt32} {t : Nat} {cur : Array Value} (h : win m t cur) (h16 : t < 16) : win m (t + 1) cur := fun u hu _ => h u (by omega) (by omega)
/-- Inside a block. -/
def bgInv (m : List UInt32) (h : S5) (gw : Nat) (w5 : World) (lo hi : Nat) (a b c d e i : Value) (wr : World) : Prop :=
  ∃ (t : Nat) (s : S5) (cur : Array Value), lo ≤ t ∧ t ≤ hi ∧ i = .int .i64 t ∧ a = vw s.a ∧ b = vw s.b ∧ c = vw s.c ∧ d = vw s.d ∧ e = vw s.e ∧ Hid (s = rounds m t h) ∧ Blk wr gw cur 182 ∧ cur.size = 16 ∧ win m t cur ∧ Upd (fun k => k = gw) w5 wr
theorem ff1 {t : Nat} (h : t < 20) (b c d : UInt32) : ff t b c d = b &&& c ||| ~~~b &&& d := by unfold ff; rw [if_pos h]
theorem ff2 {t : Nat} (h0 : 20 ≤ t) (h : t < 40) (b c d : UInt32) : ff t b c d = b ^^^ c ^^^ d := by unfold ff; rw [if_neg (by omega), if_pos h]
theorem ff3 {t : Nat} (h0 : 40 ≤ t) (h : t < 60) (b c d : UInt32) : ff t b c d = (b ||| c) &&& d ||| b &&& c := by unfold ff; rw [if_neg (by omega), if_neg (by omega), if_pos h, maj_eq]
theorem ff4 {t : Nat} (h0 : 60 ≤ t) (b c d : UInt32) : ff t b c d = b ^^^ c ^^^ d := by unfold ff; rw [if_neg (by omega), if_neg (by omega), if_neg (by omega)]
theorem kk1 {t : Nat} (h : t < 20) : kk t = 0x5a827999 := by unfold kk; rw [if_pos h]
theorem kk2 {t : Nat} (h0 : 20 ≤ t) (h : t < 40) : kk t = 0x6ed9eba1 := by unfold kk; rw [if_neg (by omega), if_pos h]
theorem kk3 {t : Nat} (h0 : 40 ≤ t) (h : t < 60) : kk t = 0x8f1bbcdc := by unfold kk; rw [if_neg (by omega), if_neg (by omega), if_pos h]
theorem kk4 {t : Nat} (h0 : 60 ≤ t) : kk t = 0xca62c1d6 := by unfold kk; rw [if_neg (by omega), if_neg (by omega), if_neg (by omega)]
theorem run_alloc182' (w : World) : (Instr.alloc 182 true (.tuple #[])).run Tryz.prog w = .ok (.pointer (some ⟨w.heap.size, 0, none⟩)) (w.alloc (.cells (Zw 16) 182)) := run_alloc182 w
theorem rnd_mk {t : Nat} {x F K : UInt32} {s : S5} (hf : ff t s.b s.c s.d = F) (hk : kk t = K) : (⟨rot5 s.a + F + s.e + x + K, s.a, rot30 s.b, s.c, s.d⟩ : S5) = rnd t x s := by
  unfold rnd; rw [hf, hk, rnd_sum]
theorem rounds_next {m : List UInt32} {t : Nat} {h s s' : S5} {x : UInt32} (hs : s = rounds m t h) (hx : x = Wt m t) (h' : s' = rnd t x s) : s' = rounds m (t + 1) h := by
  rw [h', hx, hs]; rfl
theorem bg_start {m : List UInt32} {h s : S5} {gw : Nat} {w5 wr : World} {cur : Array Value} (t hi : Nat) (hl : t ≤ hi) (hs : s = rounds m t h) (hb : Blk wr gw cur 182) (hc : cur.size = 16) (hw : win m t cur) (hu : Upd (fun k => k = gw) w5 wr) :
    bgInv m h gw w5 t hi (vw s.a) (vw s.b) (vw s.c) (vw s.d) (vw s.e) (.int .i64 t) wr :=
  ⟨t, s, cur, Nat.le_refl _, hl, rfl, rfl, rfl, rfl, rfl, rfl, hs, hb, hc, hw, hu⟩
theorem int_succ (t : Nat) : Value.int .i64 ((t : Int) + 1) = .int .i64 ((t + 1 : Nat) : Int) := rfl
/-- The loops' bodies. -/
def loopsOf : Code → List Code
  | .loop c => c :: loopsOf c
  | .seq a b => loopsOf a ++ loopsOf b
  | .block _ c => loopsOf c
  | .scope c => loopsOf c
  | .cond _ a b => loopsOf a ++ loopsOf b
  | _ => []
noncomputable def bgBody (k : Nat) : Code := (((Tryz.f116.body.map loopsOf).getD []).getD k .skip)
end Go.Proofs.YtpkipinamlbdoaaGreatDoor

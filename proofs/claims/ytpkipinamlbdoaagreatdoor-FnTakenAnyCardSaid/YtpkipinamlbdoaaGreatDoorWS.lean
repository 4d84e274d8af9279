/-
  The walk of the reference's SHA-1: it returns sha1Of of the bytes, in memory of its own. Condition: at most a million bytes.
-/
import Derived.Test.YtpkipinamlbdoaaGreatDoorP
import Derived.Deep.RegionHeld3
namespace Go.Proofs.YtpkipinamlbdoaaGreatDoor
open Go Go.RowKit
attribute [local go_sem] I32_cvt I8_cvt I32_add I32_and I32_or I32_xor I8_xor I32_notm

theorem beN_4 (a b c d : UInt8) : beN [a, b, c, d] = (be32 a b c d).toNat := by
  have ha := a.toNat_lt
  have hb := b.toNat_lt
  have hc := c.toNat_lt
  have hd := d.toNat_lt
  have e1 : (a.toUInt32 <<< 24).toNat = a.toNat * 2 ^ 24 := by
    rw [UInt32.toNat_shiftLeft, Nat.shiftLeft_eq]; simp; omega
  have e2 : (b.toUInt32 <<< 16).toNat = b.toNat * 2 ^ 16 := by
    rw [UInt32.toNat_shiftLeft, Nat.shiftLeft_eq]; simp; omega
  have e3 : (c.toUInt32 <<< 8).toNat = c.toNat * 2 ^ 8 := by
    rw [UInt32.toNat_shiftLeft, Nat.shiftLeft_eq]; simp; omega
  have e4 : d.toUInt32.toNat = d.toNat := by simp
  have o3 : c.toNat * 2 ^ 8 ||| d.toNat = c.toNat * 2 ^ 8 + d.toNat := by
    rw [Nat.mul_comm]; exact (Nat.two_pow_add_eq_or_of_lt (by omega) c.toNat).symm
  have o2 : b.toNat * 2 ^ 16 ||| (c.toNat * 2 ^ 8 + d.toNat) = b.toNat * 2 ^ 16 + (c.toNat * 2 ^ 8 + d.toNat) := by
    rw [Nat.mul_comm b.toNat]; exact (Nat.two_pow_add_eq_or_of_lt (by omega) b.toNat).symm
  have o1 : a.toNat * 2 ^ 24 ||| (b.toNat * 2 ^ 16 + (c.toNat * 2 ^ 8 + d.toNat)) = a.toNat * 2 ^ 24 + (b.toNat * 2 ^ 16 + (c.toNat * 2 ^ 8 + d.toNat)) := by
    rw [Nat.mul_comm a.toNat]; exact (Nat.two_pow_add_eq_or_of_lt (by omega) a.toNat).symm
  unfold be32
  rw [UInt32.toNat_or, UInt32.toNat_or, UInt32.toNat_or, e1, e2, e3, e4, Nat.or_assoc, Nat.or_assoc, o3, o2, o1]
  simp [beN]; omega
theorem take4 (l : List UInt8) (i : Nat) (h : i + 4 ≤ l.length) : (l.drop i).take 4 = [l.getD i 0, l.getD (i + 1) 0, l.getD (i + 2) 0, l.getD (i + 3) 0] := by
  apply List.ext_getElem
  · simp; omega
  · intro j h1 h2
    simp only [List.length_cons, List.length_nil] at h2
    rw [List.getElem_take, List.getElem_drop]
    match j, h2 with
    | 0, _ => simp [List.getD_eq_getElem?_getD, show i < l.length by omega]
    | 1, _ => simp [List.getD_eq_getElem?_getD, show i + 1 < l.length by omega]
    | 2, _ => simp [List.getD_eq_getElem?_getD, show i + 2 < l.length by omega]
    | 3, _ => simp [List.getD_eq_getElem?_getD, show i + 3 < l.length by omega]
theorem word_at (l : List UInt8) (t : Nat) (h : 4 * t + 4 ≤ l.length) : ((beN ((l.drop (4 * t)).take 4) : Nat) : Int) % 4294967296 = I32 (word l t) := by
  rw [take4 l (4 * t) h, beN_4, I32_def]
  have := (word l t).toNat_lt
  show (((word l t).toNat : Nat) : Int) % 4294967296 = _
  omega
theorem cell_set_ne {w : World} {g i j : Nat} {v x : Value} (h : w.cell? ⟨g, j, none⟩ = some x) (hn : ¬ i = j) : (w.setCell ⟨g, i, none⟩ v).cell? ⟨g, j, none⟩ = some x := by
  rw [World.cell?_setCell_other _ _ _ _ (by intro e; injection e; contradiction)]; exact h
theorem filled_next {cur : Array Value} {f : Nat → Value} {k n : Nat} (hs : cur.size = n) (hk : k < n) (h : ∀ j, j < k → cur[j]? = some (f j)) (v : Value) (hv : v = f k) :
    ∀ j, j < k + 1 → (cur.setIfInBounds k v)[j]? = some (f j) := by
  intro j hj
  by_cases e : j = k
  · subst e; subst hv; simp [hs, hk]
  · rw [Array.getElem?_setIfInBounds_ne (Ne.symm e)]; exact h j (by omega)
theorem pad_test (n z : Nat) (hz : z < zeros n) : (((n + 1 + z : Nat) : Int) % 64 != 56) = true := by
  rw [bne_iff_ne]; unfold zeros at hz; omega
theorem pad_done (n : Nat) : (((n + 1 + zeros n : Nat) : Int) % 64 != 56) = false := by
  rw [bne_eq_false_iff_eq]; unfold zeros; omega
theorem info54 : (Tryz.prog.info? 54).map (·.size) = some 1 := by kernel_rfl
theorem I32_k1 (x : UInt32) : (I32 x + 1518500249) % (4294967296 : Int) = I32 (x + 0x5a827999) := by
  have h := I32_add x 0x5a827999
  rwa [show I32 0x5a827999 = (1518500249 : Int) from by rw [I32_def]; rfl] at h
theorem I32_k2 (x : UInt32) : (I32 x + 1859775393) % (4294967296 : Int) = I32 (x + 0x6ed9eba1) := by
  have h := I32_add x 0x6ed9eba1
  rwa [show I32 0x6ed9eba1 = (1859775393 : Int) from by rw [I32_def]; rfl] at h
theorem I32_k3 (x : UInt32) : (I32 x + 2400959708) % (4294967296 : Int) = I32 (x + 0x8f1bbcdc) := by
  have h := I32_add x 0x8f1bbcdc
  rwa [show I32 0x8f1bbcdc = (2400959708 : Int) from by rw [I32_def]; rfl] at h
theorem I32_k4 (x : UInt32) : (I32 x + 3395469782) % (4294967296 : Int) = I32 (x + 0xca62c1d6) := by
  have h := I32_add x 0xca62c1d6
  rwa [show I32 0xca62c1d6 = (3395469782 : Int) from by rw [I32_def]; rfl] at h
attribute [local go_sem] I32_k1 I32_k2 I32_k3 I32_k4
def hv (s : S5) : Array Value := #[vw s.a, vw s.b, vw s.c, vw s.d, vw s.e]
theorem hv_one (s : S5) : (hv s).all (·.oneCell') = true := by simp [hv, vw, Value.oneCell']
theorem hv_size (s : S5) : (hv s).size = 5 := rfl
def h0v : Array Value := #[.int .u32 1732584193, .int .u32 4023233417, .int .u32 2562383102, .int .u32 271733878, .int .u32 3285377520]
theorem h0v_eq : h0v = hv H0 := by simp [h0v, hv, H0, I32_def]
theorem blocks_step {r k : Nat} {h s : S5} {p q : List UInt8} {m : List UInt32} {o : S5} (hb : blocks (r / 64) h q = o) (h64 : 64 ≤ r) (hr : r % 64 = 0) (hm : words q = m) (hq : p.drop k = q) (hs : rounds m 80 h = s) :
    blocks ((r - 64) / 64) (h.add s) (p.drop (k + 64)) = o := by
  rw [← hb, show r / 64 = (r - 64) / 64 + 1 by omega, blocks, hm, ← hq, List.drop_drop, blk, hs]
def S5.get (s : S5) : Nat → UInt32
  | 0 => s.a
  | 1 => s.b
  | 2 => s.c
  | 3 => s.d
  | _ => s.e
def outN (s : S5) : Nat → List UInt8
  | 0 => []
  | k + 1 => outN s k ++ beB (s.get k).toNat 4
theorem outN_5 (s : S5) : outN s 5 = s.out := by simp [outN, S5.out, S5.get]
theorem outN_length (s : S5) : ∀ k, (outN s k).length = 4 * k
  | 0 => rfl
  | k + 1 => by rw [outN, List.length_append, outN_length s k, beB_length]; omega
theorem hv_get (s : S5) (k : Nat) (hk : k < 5) : (hv s)[k]? = some (vw (s.get k)) := by
  match k, hk with
  | 0, _ => rfl
  | 1, _ => rfl
  | 2, _ => rfl
  | 3, _ => rfl
  | 4, _ => rfl
theorem wrap64_I32 (x : UInt32) : wrap64 (I32 x) = ((x.toNat : Nat) : Int) := by
  have h1 := I32_nonneg x
  have h2 := I32_lt x
  rw [I32_def] at *
  unfold wrap64; omega
def shaLeft (v : Value) : Nat := match v with | .slice _ q _ => q | _ => 0
def shaInv (w : World) (g4 : Nat) (p : List UInt8) (v : Value) (wr : World) : Prop :=
  ∃ (k r cap : Nat) (ad : Addr) (h : S5), v = .slice (some ad) r cap ∧ r ≤ cap ∧ cap ≤ 9223372036854775807 ∧ r % 64 = 0 ∧ r ≤ 1000200 ∧ Hid (k + r = p.length) ∧ (0 < r → ad = ⟨g4, k, none⟩) ∧ Hid (blocks (r / 64) h (p.drop k) = blocks (p.length / 64) H0 p) ∧ Bytes wr g4 0 p ∧ Blk wr w.heap.size (hv h) 93 ∧ Fresh w wr
theorem sha_round {w wx : World} {g4 k r cap : Nat} {p : List UInt8} {h h' : S5} (h64 : 64 ≤ r) (hr64 : r % 64 = 0) (hrc : r ≤ cap) (hcm : cap ≤ 9223372036854775807) (hrb : r ≤ 1000200) (hk : k + r = p.length)
    (hbl : blocks ((r - 64) / 64) h' (p.drop (k + 64)) = blocks (p.length / 64) H0 p) (hy : Bytes wx g4 0 p) (hb : Blk wx w.heap.size (hv h) 93) (hu : Fresh w wx) (hne : g4 ≠ w.heap.size) :
    shaInv w g4 p (.slice (if cap = 64 then some ⟨g4, k, none⟩ else some ⟨g4, k + 64, none⟩) (r - 64) (cap - 64)) (wx.setRow w.heap.size (hv h')) ∧ shaLeft (.slice (if cap = 64 then some ⟨g4, k, none⟩ else some ⟨g4, k + 64, none⟩) (r - 64) (cap - 64)) < shaLeft (.slice (some ⟨g4, k, none⟩) r cap) := by
  constructor
  · have hup : Upd (fun k => k = w.heap.size) wx (wx.setRow w.heap.size (hv h')) := ⟨rfl, rfl, rfl, by simp [World.setRow], fun k _ hk => setRow_other _ _ _ _ hk⟩
    refine ⟨k + 64, r - 64, cap - 64, if cap = 64 then ⟨g4, k, none⟩ else ⟨g4, k + 64, none⟩, h', ?_, by omega, by omega, by omega, by omega, by show _ = _; omega, ?_, hbl, hy.upd hup hne, hb.row _, hu.newer hup (fun k e => by omega)⟩
    · split <;> rfl
    · intro h0; rw [if_neg (by omega)]
  · show r - 64 < r; omega
set_option maxRecDepth 100000 in
set_option maxHeartbeats 8000000 in
theorem sha1_any (A : Option Addr) (n c : Nat) (l : List UInt8) (w : World) (hrd : Rd w (.slice A n c) l) (hlen : l.length ≤ 1000000) :
    Calls Tryz.prog 35 #[.slice A n c] w fun e w' => ∃ r, e = .returned r ∧ Own w' w.heap.size r (sha1Of l) ∧ Fresh w w' := by
  have HR : Hid (Rd w (.slice A n c) l) := hrd
  have HN : Hid (n = l.length) := hrd.len
  have hn1 : n ≤ 1000000 := by have := hrd.len; omega
  have hln : l.length ≤ 1000000 := hlen
  clear hrd hlen
  go_enter Tryz.func35, Tryz.ntmps35
  go_wp2_with (at_builtin; go_must (refine wpList_app rfl (.tmp 20) (.tmp 21) rfl (w.heap.size + 1) _ _ [] l rfl ?own rfl ?rd ?b1 ?b2 ?_))
  case own => exact Own.empty' _ _ _ (by omega) (by rw [World.size_alloc])
  case rd => exact HR.out.upd (((Upd.refl (fun _ => False) w).alloc _).alloc _) (fun _ _ f => f)
  case b1 => have := HN.out; simp; omega
  case b2 => simp
  intro v1 w1 hown hgrow
  have HO1 : Hid (Own w1 (w.heap.size + 1) v1 l) := hown
  have HB1 : Hid (Blk w1 w.heap.size h0v 93) := by
    show w1.heap[_]? = _
    rw [hgrow.block _ (by simp; omega) (by simp [Value.ownBlock])]
    exact ((Blk.new w h0v 93).alloc _)
  have HU1 : Hid (Fresh w w1) := (((Upd.refl (fun _ => False) w).alloc _).alloc _).grown hgrow (fun k hk hlt => by simp [Value.ownBlock] at hk; omega)
  clear hown hgrow
  go_wp2_with (at_builtin; go_must (refine wpList_app rfl (.tmp 22) (.tmp 23) rfl (w.heap.size + 1) _ _ l [0x80] rfl ?own2 rfl ?rd2 ?b12 ?b22 ?_))
  case own2 => exact HO1.out.alloc _
  case rd2 => exact Rd.built' w1 [0x80] _ _ _ rfl rfl (by simp [bv, I8_def]) (by simp)
  case b12 => simp; omega
  case b22 => have := HB1.out.lt; simp; omega
  intro v2 w2 hown hgrow
  have HO2 : Hid (Own w2 (w.heap.size + 1) v2 (l ++ [0x80])) := hown
  have HB2 : Hid (Blk w2 w.heap.size h0v 93) := by
    show w2.heap[_]? = _
    rw [hgrow.block _ (by have := HB1.out.lt; simp; omega) (fun e => by have := (HO1.out.lt _ e.symm).1; omega)]
    exact HB1.out.alloc _
  have HU2 : Hid (Fresh w w2) := (HU1.out.alloc _).grown hgrow (fun k hk hlt => by have := (HO1.out.lt _ hk).1; omega)
  clear hown hgrow HO1 HB1 HU1
  obtain ⟨g2, cap2, e2, hg2, _, _, _, _⟩ := HO2.out.form (by simp)
  subst e2
  have HG2 : Hid (w.heap.size + 1 ≤ g2) := hg2
  clear hg2
  simp only [List.length_append, List.length_singleton]
  go_wp2
  go_loopw [4] (fun v wr => ∃ z g cap : Nat, z ≤ zeros l.length ∧ v = .slice (some ⟨g, 0, none⟩) (l.length + 1 + z) cap ∧ Own wr (w.heap.size + 1) v (l ++ [0x80] ++ List.replicate z 0) ∧ Blk wr w.heap.size h0v 93 ∧ Fresh w wr)
    (fun v _ => match v with | .slice _ q _ => l.length + 1 + zeros l.length - q | _ => 0)
  case atStart => exact ⟨0, g2, cap2, by omega, rfl, by simpa using HO2.out, HB2.out, HU2.out⟩
  case round =>
    obtain ⟨z, g, cap, hz, rfl, hown, hblk, hu⟩ := hrel
    have HO : Hid (Own wr (w.heap.size + 1) (.slice (some ⟨g, 0, none⟩) (l.length + 1 + z) cap) (l ++ [0x80] ++ List.replicate z 0)) := hown
    have HB : Hid (Blk wr w.heap.size h0v 93) := hblk
    have HU : Hid (Fresh w wr) := hu
    clear hown hblk hu HO2 HB2 HU2
    have hzz : zeros l.length < 64 := Nat.mod_lt _ (by decide)
    by_cases hlt : z < zeros l.length
    · have ht := pad_test l.length z hlt
      generalize hN : l.length + 1 + z = N at *
      have HN' : Hid (l.length + 1 + z = N) := hN
      have hNb : N ≤ 2000000 := by omega
      clear hN
      go_wp2_with (at_builtin; go_must (refine wpList_app rfl (.tmp 29) (.tmp 30) rfl (w.heap.size + 1) _ _ (l ++ [0x80] ++ List.replicate z 0) [0] rfl ?own3 rfl ?rd3 ?b13 ?b23 ?_))
      case own3 => exact HO.out.alloc _
      case rd3 => exact Rd.built' wr [0] _ _ _ rfl rfl (by simp [bv, I8_def]) (by simp)
      case b13 => simp; omega
      case b23 => have := HB.out.lt; simp; omega
      intro v3 w3 hown hgrow
      have HO3 : Hid (Own w3 (w.heap.size + 1) v3 (l ++ [0x80] ++ List.replicate (z + 1) 0)) := by
        show Own _ _ _ _
        rw [List.replicate_succ']; simpa using hown
      have HB3 : Hid (Blk w3 w.heap.size h0v 93) := by
        show w3.heap[_]? = _
        rw [hgrow.block _ (by have := HB.out.lt; simp; omega) (fun e => by have := (HO.out.lt _ e.symm).1; omega)]
        exact HB.out.alloc _
      have HU3 : Hid (Fresh w w3) := (HU.out.alloc _).grown hgrow (fun k hk hlt => by have := (HO.out.lt _ hk).1; omega)
      clear hown hgrow
      obtain ⟨g3, cap3, e3, _, _, _, _, _⟩ := HO3.out.form (by simp; omega)
      subst e3
      have e4 : (l ++ [0x80] ++ List.replicate (z + 1) 0).length = N + 1 := by have := HN'.out; simp; omega
      rw [e4] at HO3 ⊢
      clear e4
      go_wp2
      go_roundw
      case rel => exact ⟨z + 1, g3, cap3, by omega, by rw [← HN'.out]; rfl, HO3.out, HB3.out, HU3.out⟩
      case measure => have := HN'.out; simp; omega
    · obtain rfl : z = zeros l.length := by omega
      have ht := pad_done l.length
      generalize hN : l.length + 1 + zeros l.length = N at *
      have HN' : Hid (l.length + 1 + zeros l.length = N) := hN
      have hNb : N ≤ 2000000 := by omega
      clear hN
      go_wp2_with fail
      rw [show (8 * (n : Int)) = ((8 * l.length : Nat) : Int) by have := HN.out; omega]
      refine (number_any (8 * l.length) 8 wr (by omega) (by omega)).mono ?_
      rintro e w3 ⟨v3, rfl, hown, hu⟩
      have HO3 : Hid (Own w3 wr.heap.size v3 (beB (8 * l.length) 8)) := hown
      have HU3 : Hid (Fresh w w3) := HU.out.fresh hu
      have HB3 : Hid (Blk w3 w.heap.size h0v 93) := HB.out.upd hu (fun f => f)
      have HOO : Hid (Own w3 (w.heap.size + 1) (.slice (some ⟨g, 0, none⟩) N cap) (l ++ [0x80] ++ List.replicate (zeros l.length) 0)) := HO.out.upd hu (fun _ _ f => f)
      clear hown hu HU HB HO
      go_wp2_with (at_builtin; go_must (refine wpList_app rfl (.tmp 32) (.tmp 36) rfl (w.heap.size + 1) _ _ (l ++ [0x80] ++ List.replicate (zeros l.length) 0) (beB (8 * l.length) 8) rfl ?own4 rfl ?rd4 ?b14 ?b24 ?_))
      case own4 => exact HOO.out
      case rd4 => exact HO3.out.rd
      case b14 => rw [beB_length]; have := HN'.out; simp; omega
      case b24 => exact HB3.out.lt
      intro v4 w4 hown hgrow
      have HO4 : Hid (Own w4 (w.heap.size + 1) v4 (pad l)) := by
        show Own _ _ _ _
        unfold pad; simpa using hown
      have HB4 : Hid (Blk w4 w.heap.size (hv H0) 93) := by
        show w4.heap[_]? = _
        rw [← h0v_eq, hgrow.block _ HB3.out.lt (fun e => by have := (HOO.out.lt _ e.symm).1; omega)]
        exact HB3.out
      have HU4 : Hid (Fresh w w4) := HU3.out.grown hgrow (fun k hk hlt => by have := (HOO.out.lt _ hk).1; omega)
      clear hown hgrow HO3 HB3 HU3 HOO ht
      have hpw := pad_whole l
      have hpl : (pad l).length ≤ 1000200 := by rw [pad_length]; omega
      have hp0 : 0 < (pad l).length := by rw [pad_length]; omega
      have HP : Hid (blocks ((pad l).length / 64) H0 (pad l) = blocks ((pad l).length / 64) H0 (pad l)) := rfl
      have HS : Hid (sha1Of l = (blocks ((pad l).length / 64) H0 (pad l)).out) := rfl
      generalize pad l = p at *
      obtain ⟨g4, cap4, e4, hg4, hby, hc4, hm4, hl4⟩ := HO4.out.form hp0
      subst e4
      have HY : Hid (Bytes w4 g4 0 p) := hby
      have HG4 : Hid (w.heap.size + 1 ≤ g4) := hg4
      clear hby hg4 HO4 HN'
      go_wp2
      go_loopw [4] (fun v wr => shaInv w g4 p v wr) (fun v _ => shaLeft v)
      case atStart => exact ⟨0, p.length, cap4, _, H0, rfl, hc4, hm4, hpw, hpl, by show _ = _; omega, fun _ => rfl, rfl, HY.out, HB4.out, HU4.out⟩
      case round =>
        obtain ⟨wo, rfl⟩ : ∃ wo : World, wo = wr := ⟨_, rfl⟩
        obtain ⟨k, r, cap, ad, h, rfl, hrc, hcm, hr64, hrb, HK, had, HBL, hby, hblk, hu⟩ := hrel
        have HYo : Hid (Bytes wo g4 0 p) := hby
        have HBo : Hid (Blk wo w.heap.size (hv h) 93) := hblk
        have HUo : Hid (Fresh w wo) := hu
        clear hby hblk hu HY HB4 HU4
        by_cases hr0 : 0 < r
        · obtain rfl := had hr0
          clear had
          go_wp2_with (first | (refine wpList_build94 rfl rfl ?_) | (refine wpList_alloc_of run_alloc94 rfl rfl ?_) | (refine wpList_store94 rfl (.tmp 5) (.tmp 43) rfl wo.heap.size (Zw 80) (Zw 80) rfl rfl (Blk.new _ _ _) (Zw_size _) (Zw_size _) (Zw_one _) ?_))
          have HB5 : Hid (Blk ((wo.alloc (.cells (Zw 80) 94)).setRow wo.heap.size (Zw 80)) wo.heap.size (Zw 80) 94) := Blk.row (Blk.new _ _ _) _
          have HU5 : Hid (Fresh wo ((wo.alloc (.cells (Zw 80) 94)).setRow wo.heap.size (Zw 80))) :=
            ((Upd.refl (fun _ => False) wo).alloc _).newer (T := fun k => k = wo.heap.size) ⟨rfl, rfl, rfl, by simp [World.setRow], fun k _ hk => setRow_other _ _ _ _ hk⟩ (fun k hk => by omega)
          generalize (wo.alloc (.cells (Zw 80) 94)).setRow wo.heap.size (Zw 80) = w5 at *
          have hgw1 : w.heap.size < wo.heap.size := HBo.out.lt
          have hgw2 : g4 < wo.heap.size := by
            have h1 : 0 < p.length := hp0
            exact World.block_lt_of_cell? _ _ (HYo.out 0 h1)
          generalize wo.heap.size = gw at *
          have HY5 : Hid (Bytes w5 g4 k (p.drop k)) := by
            have := (HYo.out.upd HU5.out (fun f => f)).drop k
            rwa [Nat.zero_add] at this
          have HBh : Hid (Blk w5 w.heap.size (hv h) 93) := HBo.out.upd HU5.out (fun f => f)
          have HW : Hid ((words (p.drop k)).length = 16) := words_length _
          have HWg : Hid (∀ i, i < 16 → (words (p.drop k)).getD i 0 = word (p.drop k) i) := words_get _
          have hrl : r = (p.drop k).length := by rw [List.length_drop]; have := HK.out; omega
          have HRL : Hid (r = (p.drop k).length) := hrl
          clear hrl
          generalize hm : words (p.drop k) = m at *
          have HM : Hid (words (p.drop k) = m) := hm
          clear hm
          generalize hq : p.drop k = q at *
          have HQ : Hid (p.drop k = q) := hq
          clear hq
          go_loopw [44] (fun i wr => ∃ t : Nat, t ≤ 80 ∧ i = .int .i64 t ∧ ∃ cur, Blk wr gw cur 94 ∧ cur.size = 80 ∧ (∀ j, j < t → cur[j]? = some (vw (Wt m j))) ∧ Upd (fun k => k = gw) w5 wr) (fun i _ => 80 - (intOf i).toNat)
          case atStart => exact ⟨0, by omega, rfl, Zw 80, HB5.out, Zw_size _, fun j hj => by omega, Upd.refl _ _⟩
          case round =>
            obtain ⟨t, ht, rfl, cur, hb, hs, hf, hu⟩ := hrel
            have HB : Hid (Blk wr gw cur 94) := hb
            have HS : Hid (cur.size = 80) := hs
            have HF : Hid (∀ j, j < t → cur[j]? = some (vw (Wt m j))) := hf
            have HU : Hid (Upd (fun k => k = gw) w5 wr) := hu
            clear hb hs hf hu
            by_cases hlt : t < 80
            · obtain ⟨old, hold⟩ := HB.out.some (j := t) (by rw [HS.out]; exact hlt)
              have hfr := HB.out.free t
              by_cases h16 : t < 16
              · have hwd := word_at (q) t (by have := HRL.out; omega)
                have HWt : Hid (Wt m t = word (q) t) := by show _ = _; rw [Wt_low HW.out t h16]; exact HWg.out t h16
                go_wp2_with fail
                rw [show (4 * (t : Int)) = ((4 * t : Nat) : Int) by omega]
                refine (at_any (q) g4 k r cap (4 * t) 4 wr HRL.out hrc (by unfold maxLen; omega) (HY5.out.upd HU.out (by omega)) (by omega) (by omega) (by omega)).mono ?_
                rintro e w6 ⟨rfl, rfl⟩
                go_wp2
                go_roundw
                case rel => exact ⟨t + 1, by omega, by go_num, _, HB.out.set _ _, by simp [HS.out], filled_next HS.out hlt HF.out _ (by rw [HWt.out]), HU.out.setCell (fun _ => rfl) _⟩
                case measure => simp [intOf]; omega
              · obtain ⟨a0, ha0⟩ : ∃ a0, Hid (t = a0 + 16) := ⟨t - 16, by show _ = _; omega⟩
                obtain ⟨a13, h13⟩ : ∃ a13, Hid (a13 = a0 + 13) := ⟨_, rfl⟩
                obtain ⟨a8, h8⟩ : ∃ a8, Hid (a8 = a0 + 8) := ⟨_, rfl⟩
                obtain ⟨a2, h2⟩ : ∃ a2, Hid (a2 = a0 + 2) := ⟨_, rfl⟩
                have HWt : Hid (Wt m t = rot1 (Wt m a13 ^^^ Wt m a8 ^^^ Wt m a2 ^^^ Wt m a0)) := by
                  show _ = _; rw [ha0.out, h13.out, h8.out, h2.out]; exact Wt_high HW.out a0
                have c13 : wr.cell? ⟨gw, a13, none⟩ = some (vw (Wt m a13)) := by rw [HB.out.cell]; exact HF.out _ (by have := ha0.out; have := h13.out; omega)
                have c8 : wr.cell? ⟨gw, a8, none⟩ = some (vw (Wt m a8)) := by rw [HB.out.cell]; exact HF.out _ (by have := ha0.out; have := h8.out; omega)
                have c2 : wr.cell? ⟨gw, a2, none⟩ = some (vw (Wt m a2)) := by rw [HB.out.cell]; exact HF.out _ (by have := ha0.out; have := h2.out; omega)
                have c0 : wr.cell? ⟨gw, a0, none⟩ = some (vw (Wt m a0)) := by rw [HB.out.cell]; exact HF.out _ (by have := ha0.out; omega)
                have w13 : IntKind.i64.wrap ((t : Int) - 3) = a13 := by rw [IntKind.wrap_i64]; have := ha0.out; have := h13.out; omega
                have w8 : IntKind.i64.wrap ((t : Int) - 8) = a8 := by rw [IntKind.wrap_i64]; have := ha0.out; have := h8.out; omega
                have w2 : IntKind.i64.wrap ((t : Int) - 14) = a2 := by rw [IntKind.wrap_i64]; have := ha0.out; have := h2.out; omega
                have w0 : IntKind.i64.wrap ((t : Int) - 16) = a0 := by rw [IntKind.wrap_i64]; have := ha0.out; omega
                have b13 : (a13 : Int) < 80 := by have := ha0.out; have := h13.out; omega
                have b8 : (a8 : Int) < 80 := by have := ha0.out; have := h8.out; omega
                have b2 : (a2 : Int) < 80 := by have := ha0.out; have := h2.out; omega
                have b0 : (a0 : Int) < 80 := by have := ha0.out; omega
                have bt : (t : Int) < 80 := by omega
                have n13 : ¬ t = a13 := by have := ha0.out; have := h13.out; omega
                have n8 : ¬ t = a8 := by have := ha0.out; have := h8.out; omega
                have n2 : ¬ t = a2 := by have := ha0.out; have := h2.out; omega
                have n0 : ¬ t = a0 := by have := ha0.out; omega
                generalize Wt m a13 = x13 at *
                generalize Wt m a8 = x8 at *
                generalize Wt m a2 = x2 at *
                generalize Wt m a0 = x0 at *
                go_wp2_with fail
                go_region_held3 (fun w' => w'.cell? ⟨gw, a13, none⟩ = some (vw x13) ∧ w'.cell? ⟨gw, a8, none⟩ = some (vw x8) ∧ w'.cell? ⟨gw, a2, none⟩ = some (vw x2) ∧ w'.cell? ⟨gw, a0, none⟩ = some (vw x0)) (first | go_keep | exact ⟨cell_set_ne c13 n13, cell_set_ne c8 n8, cell_set_ne c2 n2, cell_set_ne c0 n0⟩)
                  (first | (go_at_call 49; refine (left1 _ _).mono ?_; rintro e w6 ⟨rfl, m6, rfl⟩))
                go_wp2
                go_roundw
                case rel => exact ⟨t + 1, by omega, by go_num, _, (show Blk (wr.drewN _) gw cur 94 from HB.out).set _ _, by simp [HS.out], filled_next HS.out hlt HF.out _ (by rw [HWt.out]), (HU.out.drewN _).setCell (fun _ => rfl) _⟩
                case measure => simp [intOf]; omega
            · obtain rfl : t = 80 := by omega
              have ca : wr.cell? ⟨w.heap.size, 0, none⟩ = some (vw h.a) := (HBh.out.upd HU.out (by omega)).cell 0
              have cb : wr.cell? ⟨w.heap.size, 1, none⟩ = some (vw h.b) := (HBh.out.upd HU.out (by omega)).cell 1
              have cc : wr.cell? ⟨w.heap.size, 2, none⟩ = some (vw h.c) := (HBh.out.upd HU.out (by omega)).cell 2
              have cd : wr.cell? ⟨w.heap.size, 3, none⟩ = some (vw h.d) := (HBh.out.upd HU.out (by omega)).cell 3
              have ce : wr.cell? ⟨w.heap.size, 4, none⟩ = some (vw h.e) := (HBh.out.upd HU.out (by omega)).cell 4
              go_wp2
              go_quiet (fail)
              go_wp2_with (first | (refine wpList_load94 rfl (.tmp 5) rfl gw cur rfl HB.out HS.out ?_))
              have HF80 : Hid (∀ j, j < 80 → cur[j]? = some (vw (Wt m j))) := HF.out
              clear ca cb cc cd ce HB HS HF
              go_loopw [7, 8, 9, 10, 11, 90] (fun a b c d e i wx => ∃ (t : Nat) (s : S5), t ≤ 80 ∧ i = .int .i64 t ∧ Hid (rounds m t h = s) ∧ a = .int .u32 (I32 s.a) ∧ b = .int .u32 (I32 s.b) ∧ c = .int .u32 (I32 s.c) ∧ d = .int .u32 (I32 s.d) ∧ e = .int .u32 (I32 s.e) ∧ ∃ q, wx = wr.drewN q)
                (fun _ _ _ _ _ i _ => 80 - (intOf i).toNat)
              case atStart => exact ⟨0, h, by omega, rfl, rfl, rfl, rfl, rfl, rfl, rfl, nq, rfl⟩
              case round =>
                obtain ⟨t, s, ht, rfl, HR', rfl, rfl, rfl, rfl, rfl, q6, rfl⟩ := hrel
                by_cases hlt : t < 80
                · have hidx := run_index_words Tryz.underlying94 info54 cur t _ hlt (HF80.out t hlt)
                  have HX : Hid (rounds m (t + 1) h = rnd t (Wt m t) s) := by show _ = _; rw [← HR'.out]; rfl
                  generalize Wt m t = x at *
                  by_cases h20 : t < 20
                  · have e1 : ((t : Int) / 20 == 1) = false := by rw [beq_eq_false_iff_ne]; omega
                    have e2 : ((t : Int) / 20 == 2) = false := by rw [beq_eq_false_iff_ne]; omega
                    have e3 : ((t : Int) / 20 == 3) = false := by rw [beq_eq_false_iff_ne]; omega
                    go_wp2_with fail
                    refine (left5 _ _).mono ?_
                    rintro e w6 ⟨rfl, m6, rfl⟩
                    go_wp2_with fail
                    refine (left30 _ _).mono ?_
                    rintro e w6 ⟨rfl, m7, rfl⟩
                    go_wp2
                    go_roundw
                    case rel => exact ⟨t + 1, rnd t x s, by omega, by go_num, HX.out, by simp [rnd, ff, kk, h20], rfl, rfl, rfl, rfl, q6 + m6 + m7, rfl⟩
                    case measure => simp [intOf]; omega
                  · by_cases h40 : t < 40
                    · have e1 : ((t : Int) / 20 == 1) = true := by rw [beq_iff_eq]; omega
                      have e2 : ((t : Int) / 20 == 2) = false := by rw [beq_eq_false_iff_ne]; omega
                      have e3 : ((t : Int) / 20 == 3) = false := by rw [beq_eq_false_iff_ne]; omega
                      go_wp2_with fail
                      refine (left5 _ _).mono ?_
                      rintro e w6 ⟨rfl, m6, rfl⟩
                      go_wp2_with fail
                      refine (left30 _ _).mono ?_
                      rintro e w6 ⟨rfl, m7, rfl⟩
                      go_wp2
                      go_roundw
                      case rel => exact ⟨t + 1, rnd t x s, by omega, by go_num, HX.out, by simp [rnd, ff, kk, h20, h40], rfl, rfl, rfl, rfl, q6 + m6 + m7, rfl⟩
                      case measure => simp [intOf]; omega
                    · by_cases h60 : t < 60
                      · have e1 : ((t : Int) / 20 == 1) = false := by rw [beq_eq_false_iff_ne]; omega
                        have e2 : ((t : Int) / 20 == 2) = true := by rw [beq_iff_eq]; omega
                        have e3 : ((t : Int) / 20 == 3) = false := by rw [beq_eq_false_iff_ne]; omega
                        go_wp2_with fail
                        refine (left5 _ _).mono ?_
                        rintro e w6 ⟨rfl, m6, rfl⟩
                        go_wp2_with fail
                        refine (left30 _ _).mono ?_
                        rintro e w6 ⟨rfl, m7, rfl⟩
                        go_wp2
                        go_roundw
                        case rel => exact ⟨t + 1, rnd t x s, by omega, by go_num, HX.out, by simp [rnd, ff, kk, h20, h40, h60], rfl, rfl, rfl, rfl, q6 + m6 + m7, rfl⟩
                        case measure => simp [intOf]; omega
                      · have e1 : ((t : Int) / 20 == 1) = false := by rw [beq_eq_false_iff_ne]; omega
                        have e2 : ((t : Int) / 20 == 2) = false := by rw [beq_eq_false_iff_ne]; omega
                        have e3 : ((t : Int) / 20 == 3) = true := by rw [beq_iff_eq]; omega
                        go_wp2_with fail
                        refine (left5 _ _).mono ?_
                        rintro e w6 ⟨rfl, m6, rfl⟩
                        go_wp2_with fail
                        refine (left30 _ _).mono ?_
                        rintro e w6 ⟨rfl, m7, rfl⟩
                        go_wp2
                        go_roundw
                        case rel => exact ⟨t + 1, rnd t x s, by omega, by go_num, HX.out, by simp [rnd, ff, kk, h20, h40, h60], rfl, rfl, rfl, rfl, q6 + m6 + m7, rfl⟩
                        case measure => simp [intOf]; omega
                · obtain rfl : t = 80 := by omega
                  have HBw : Hid (Blk (wr.drewN q6) w.heap.size (hv h) 93) := HBh.out.upd (HU.out.drewN q6) (by omega)
                  have ca : wr.cell? ⟨w.heap.size, 0, none⟩ = some (vw h.a) := HBw.out.cell 0
                  have cb : wr.cell? ⟨w.heap.size, 1, none⟩ = some (vw h.b) := HBw.out.cell 1
                  have cc : wr.cell? ⟨w.heap.size, 2, none⟩ = some (vw h.c) := HBw.out.cell 2
                  have cd : wr.cell? ⟨w.heap.size, 3, none⟩ = some (vw h.d) := HBw.out.cell 3
                  have ce : wr.cell? ⟨w.heap.size, 4, none⟩ = some (vw h.e) := HBw.out.cell 4
                  have h64 : 64 ≤ r := by omega
                  have hfz : wr.frozen? ⟨w.heap.size, 0, none⟩ = false := HBw.out.free 0
                  go_wp2_with (first | (refine wpList_store93 rfl (.tmp 3) (.tmp 167) rfl w.heap.size (hv (h.add s)) (hv h) rfl (by rfl) HBw.out rfl rfl (hv_one _) ?_))
                  have HU67 : Fresh w (wr.drewN q6) := ((HUo.out.fresh HU5.out).newer HU.out (fun k e => by omega)).drewN q6
                  have HY6 : Bytes (wr.drewN q6) g4 0 p :=
                    ((HYo.out.upd HU5.out (fun f => f)).upd HU.out (by omega)).upd ((Upd.refl (fun _ => False) _).drewN q6) (fun f => f)
                  have hne : g4 ≠ w.heap.size := by have := HG4.out; omega
                  have HBL9 : blocks ((r - 64) / 64) (h.add s) (p.drop (k + 64)) = blocks (p.length / 64) H0 p := blocks_step HBL.out h64 hr64 HM.out HQ.out HR'.out
                  have HBwo := HBw.out
                  have hkr := HK.out
                  exact sha_round h64 hr64 hrc hcm hrb hkr HBL9 HY6 HBwo HU67 hne
        · obtain rfl : r = 0 := by omega
          have HB0 : Hid (Blk wo w.heap.size (hv h) 93) := HBo
          have HOUT : Hid (sha1Of l = h.out) := by
            show _ = _; rw [HS.out, ← HBL.out]; rfl
          clear had HBo
          have hwlt : w.heap.size < wo.heap.size := HB0.out.lt
          go_wp2_with (first | (refine wpList_load93 rfl (.tmp 3) rfl w.heap.size (hv h) rfl (HB0.out.alloc _) rfl ?_))
          have HB1' : Hid (Fresh w (wo.alloc (.cells #[] 5))) := HUo.out.alloc _
          have HO0 : Hid (Own (wo.alloc (.cells #[] 5)) (w.heap.size + 1) (.slice (some ⟨wo.heap.size, 0, none⟩) 0 0) []) := Own.empty' _ _ _ (by omega) rfl
          go_loopw [16, 170] (fun v i wr => ∃ k : Nat, k ≤ 5 ∧ i = .int .i64 k ∧ Own wr (w.heap.size + 1) v (outN h k) ∧ Fresh w wr ∧ w.heap.size < wr.heap.size) (fun _ i _ => 5 - (intOf i).toNat)
          case atStart => exact ⟨0, by omega, rfl, HO0.out, HB1'.out, by simp; omega⟩
          case round =>
            obtain ⟨k, hk, rfl, hown, hu, hsz⟩ := hrel
            have HO : Hid (Own wr (w.heap.size + 1) u16 (outN h k)) := hown
            have HU : Hid (Fresh w wr) := hu
            clear hown hu
            by_cases hlt : k < 5
            · have hidx := run_index_words Tryz.underlying93 info54 (hv h) k (vw (h.get k)) hlt (hv_get h k hlt)
              have HLn : Hid ((outN h k).length = 4 * k) := outN_length h k
              have HNX : Hid (outN h (k + 1) = outN h k ++ beB (h.get k).toNat 4) := rfl
              generalize hnx : outN h (k + 1) = nx at *
              have HE : Hid (outN h (k + 1) = nx) := hnx
              clear hnx
              generalize outN h k = cr at *
              generalize h.get k = x at *
              go_wp2_with fail
              have hxl := x.toNat_lt
              rw [wrap64_I32 x]
              refine (number_any x.toNat 4 wr (by omega) (by omega)).mono ?_
              rintro e w3 ⟨v3, rfl, hown, hu⟩
              have HO3 : Hid (Own w3 wr.heap.size v3 (beB x.toNat 4)) := hown
              have HU3 : Hid (Fresh w w3) := HU.out.fresh hu
              have HOO : Hid (Own w3 (w.heap.size + 1) u16 cr) := HO.out.upd hu (fun _ _ f => f)
              have hsz3 : w.heap.size < w3.heap.size := Nat.lt_of_lt_of_le hsz hu.size
              clear hown hu HU HO
              go_wp2_with (at_builtin; go_must (refine wpList_app rfl (.tmp 173) (.tmp 176) rfl (w.heap.size + 1) _ _ cr (beB x.toNat 4) rfl ?own5 rfl ?rd5 ?b15 ?b25 ?_))
              case own5 => exact HOO.out
              case rd5 => exact HO3.out.rd
              case b15 => rw [beB_length, HLn.out]; omega
              case b25 => exact hsz3
              intro v4 w4 hown hgrow
              have HO4 : Hid (Own w4 (w.heap.size + 1) v4 nx) := by
                show Own _ _ _ _
                rw [HNX.out]; exact hown
              have HU4 : Hid (Fresh w w4) := HU3.out.grown hgrow (fun k hk hlt => by have := (HOO.out.lt _ hk).1; omega)
              have hsz4 : w.heap.size < w4.heap.size := Nat.lt_of_lt_of_le hsz3 hgrow.size
              clear hown hgrow
              go_wp2
              go_roundw
              case rel => exact ⟨k + 1, by omega, by go_num, by rw [HE.out]; exact HO4.out, HU4.out, hsz4⟩
              case measure => simp [intOf]; omega
            · obtain rfl : k = 5 := by omega
              go_wp2
              go_ret
              refine ⟨_, rfl, ?_, HU.out⟩
              rw [HOUT.out, ← outN_5]; exact HO.out.base (by omega)
end Go.Proofs.YtpkipinamlbdoaaGreatDoor

/-
  The walks of CRC-32: the reference's, bit by bit, and the library's, by tables: both return crcOf of the bytes. Condition: the bytes are there.
-/
import Derived.Test.YtpkipinamlbdoaaGreatDoorRows
import Derived.Test.YtpkipinamlbdoaaGreatDoorU
import Derived.Test.YtpkipinamlbdoaaGreatDoorS
import Derived.WalkSpells
import Derived.WalkLawsBesides
import Derived.Deep.QuietTactic
import Derived.BigQuiet
namespace Go.Proofs.YtpkipinamlbdoaaGreatDoor
open Go Go.RowKit
attribute [local go_sem] I32_cvt I8_cvt I32_add I32_and I32_or I32_xor I8_xor I32_notm I32_shr1 I32_shr8 I32_shr16 I32_shr24 I32_shl8 I32_shl16 I32_shl24 I32_beq

theorem I32_and1 (x : UInt32) : bits .and .u32 (I32 x) 1 = I32 (x &&& 1) := I32_and x 1 ▸ (by rw [show I32 1 = 1 from by rw [I32_def]; rfl])
theorem I32_and255 (x : UInt32) : bits .and .u32 (I32 x) 255 = I32 (x &&& 255) := I32_and x 255 ▸ (by rw [show I32 255 = 255 from by rw [I32_def]; rfl])
theorem I32_xorp (x : UInt32) : bits .xor .u32 (I32 x) 3988292384 = I32 (x ^^^ 0xedb88320) := I32_xor x 0xedb88320 ▸ (by rw [show I32 0xedb88320 = 3988292384 from by rw [I32_def]; rfl])
theorem I32_eq1 (x : UInt32) : (I32 x == 1) = (x == 1) := I32_beq x 1 ▸ (by rw [show I32 1 = 1 from by rw [I32_def]; rfl])
theorem I32_max : (4294967295 : Int) = I32 0xffffffff := by rw [I32_def]; rfl
attribute [local go_sem] I32_and1 I32_and255 I32_xorp I32_eq1

theorem crc_take_succ (l : List UInt8) (k : Nat) (h : k < l.length) :
    (l.take (k+1)).foldl crcByte 0xffffffff = crcN 8 ((l.take k).foldl crcByte 0xffffffff ^^^ l[k].toUInt32) := by
  rw [List.take_succ_eq_append_getElem h, List.foldl_append]; rfl
set_option maxHeartbeats 400000 in
theorem crc_any (l : List UInt8) (b o n c : Nat) (w : World) (hn : n = l.length) (hc : n ≤ c) (hm : c ≤ maxLen) (hl : Bytes w b o l) :
    Calls Tryz.prog 34 #[.slice (some ⟨b, o, none⟩) n c] w fun e w' => e = .returned (.int .u32 (I32 (crcOf l))) ∧ w = w' := by
  unfold maxLen at hm
  have hnl : n ≤ l.length := Nat.le_of_eq hn
  have hln : l.length ≤ n := Nat.le_of_eq hn.symm
  clear hn
  go_enter Tryz.func34, Tryz.ntmps34
  go_wp2
  go_loop [3, 10] (fun x i => ∃ k : Nat, k ≤ n ∧ i = .int .i64 k ∧ x = .int .u32 (I32 ((l.take k).foldl crcByte 0xffffffff))) (fun _ i => n - (intOf i).toNat)
  case atStart => exact ⟨0, by omega, rfl, by rw [I32_max]; rfl⟩
  case round =>
    obtain ⟨k, hk, rfl, rfl⟩ := hrel
    by_cases hlt : k < n
    · have hkl : k < l.length := by omega
      have hcell := hl k hkl
      have hnx : Hid ((l.take (k+1)).foldl crcByte 0xffffffff = crcN 8 ((l.take k).foldl crcByte 0xffffffff ^^^ l[k].toUInt32)) := crc_take_succ l k hkl
      generalize (l.take k).foldl crcByte 0xffffffff = X at *
      generalize l[k] = x at *
      clear hl
      go_wp2
      go_loop [3, 6] (fun v j => ∃ q : Nat, q ≤ 8 ∧ j = .int .i64 q ∧ v = .int .u32 (I32 (crcN q (X ^^^ x.toUInt32)))) (fun _ j => 8 - (intOf j).toNat)
      case atStart => exact ⟨0, by omega, rfl, rfl⟩
      case round =>
        obtain ⟨q, hq, rfl, rfl⟩ := hrel
        by_cases hlt2 : q < 8
        · have hs : Hid (crcN (q+1) (X ^^^ x.toUInt32) = crcStep (crcN q (X ^^^ x.toUInt32))) := rfl
          generalize crcN q (X ^^^ x.toUInt32) = Y at *
          by_cases hodd : (Y &&& 1 == 1) = true
          · go_wp2
            go_round
            case rel => exact ⟨q+1, by omega, by go_num, by rw [hs.out]; unfold crcStep; rw [if_pos hodd]⟩
            case measure => simp [intOf]; omega
          · simp only [Bool.not_eq_true] at hodd
            go_wp2
            go_round
            case rel => exact ⟨q+1, by omega, by go_num, by rw [hs.out]; unfold crcStep; rw [if_neg (by simp [hodd])]⟩
            case measure => simp [intOf]; omega
        · go_wp2
          go_round
          case rel =>
            obtain rfl : q = 8 := by omega
            exact ⟨k+1, by omega, by go_num, by rw [hnx.out]⟩
          case measure => simp [intOf]; omega
    · go_wp2
      go_ret
      refine ⟨?_, rfl⟩
      have hk' : l.take k = l := List.take_of_length_le (by omega)
      rw [hk']
      simp [crcOf]

theorem k32 (k : Nat) (h : k < 4294967296) : Hid ((k : Int) = I32 (UInt32.ofNat k)) := I32_lit k h
/-- The k-th entry has been laid. -/
theorem filled_set {cur : Array Value} {f : Nat → Value} {k n : Nat} (hs : cur.size = n) (hk : k < n) (h : ∀ j, j < k → cur[j]? = some (f j)) (v : Value) (hv : v = f k) :
    ∀ j, j < k + 1 → (cur.setIfInBounds k v)[j]? = some (f j) := by
  intro j hj
  by_cases e : j = k
  · subst e; subst hv; simp [hs, hk]
  · rw [Array.getElem?_setIfInBounds_ne (Ne.symm e)]; exact h j (by omega)
set_option maxRecDepth 100000 in
set_option maxHeartbeats 400000 in
theorem pop_any (g : Nat) (cur : Array Value) (T : TypeId) (w : World) (hb : Blk w g cur T) (hs : cur.size = 2048) :
    Calls Tryz.prog 69 #[.int .u32 3988292384, .pointer (some ⟨g, 0, none⟩)] w fun e w' => e = .returned (.tuple #[]) ∧
      ∃ cur', Blk w' g cur' T ∧ cur'.size = 2048 ∧ (∀ j, j < 256 → cur'[j]? = some (vw (tabW 0 j))) ∧ Upd (fun k => k = g) w w' ∧ w'.heap.size = w.heap.size := by
  go_enter Tryz.func69, Tryz.ntmps69
  go_wp2
  go_loopw [4] (fun i wr => ∃ k : Nat, k ≤ 256 ∧ i = .int .i64 k ∧ ∃ cur', Blk wr g cur' T ∧ cur'.size = 2048 ∧ (∀ j, j < k → cur'[j]? = some (vw (tabW 0 j))) ∧ Upd (fun k => k = g) w wr ∧ wr.heap.size = w.heap.size) (fun i _ => 256 - (intOf i).toNat)
  case atStart => exact ⟨0, by omega, rfl, cur, hb, hs, fun j hj => by omega, Upd.refl _ _, rfl⟩
  case round =>
    obtain ⟨k, hk, rfl, cur', hb', hs', hf, hu, hz⟩ := hrel
    by_cases hlt : k < 256
    · obtain ⟨old, hc⟩ := hb'.some (j := k) (by omega)
      have hfr := hb'.free k
      have hk32 := k32 k (by omega)
      have HB : Hid (Blk wr g cur' T) := hb'
      have HS : Hid (cur'.size = 2048) := hs'
      have HF : Hid (∀ j, j < k → cur'[j]? = some (vw (tabW 0 j))) := hf
      have HZ : Hid (wr.heap.size = w.heap.size) := hz
      have HT : Hid (tabW 0 k = crcN 8 (UInt32.ofNat k)) := rfl
      clear hb hs hb' hs' hf hz
      generalize UInt32.ofNat k = X at *
      go_wp2
      go_loop [5, 6] (fun v j => ∃ q : Nat, q ≤ 8 ∧ j = .int .i64 q ∧ v = .int .u32 (I32 (crcN q X))) (fun _ j => 8 - (intOf j).toNat)
      case atStart => exact ⟨0, by omega, rfl, by rw [hk32.out]; rfl⟩
      case round =>
        obtain ⟨q, hq, rfl, rfl⟩ := hrel
        by_cases hlt2 : q < 8
        · have hs : Hid (crcN (q+1) X = crcStep (crcN q X)) := rfl
          generalize crcN q X = Y at *
          by_cases hodd : (Y &&& 1 == 1) = true
          · go_wp2
            go_round
            case rel => exact ⟨q+1, by omega, by go_num, by rw [hs.out]; unfold crcStep; rw [if_pos hodd]⟩
            case measure => simp [intOf]; omega
          · simp only [Bool.not_eq_true] at hodd
            go_wp2
            go_round
            case rel => exact ⟨q+1, by omega, by go_num, by rw [hs.out]; unfold crcStep; rw [if_neg (by simp [hodd])]⟩
            case measure => simp [intOf]; omega
        · go_wp2
          go_roundw
          case rel =>
            obtain rfl : q = 8 := by omega
            exact ⟨k+1, by omega, by go_num, _, HB.out.set _ _, by simp [HS.out], filled_set HS.out (by omega) HF.out _ (by rw [HT.out]), hu.setCell (fun _ => rfl) _, by simp [HZ.out]⟩
          case measure => simp [intOf]; omega
    · go_wp2
      go_end0
      exact ⟨rfl, cur', hb', hs', fun j hj => hf j (by omega), hu, hz⟩

theorem and255_lt (x : UInt32) : (x &&& 255).toNat < 256 := by rw [UInt32.toNat_and]; exact Nat.lt_of_le_of_lt Nat.and_le_right (by decide)
theorem row0 {cur : Array Value} {k : Nat} (h : ∀ i, i < 256 → cur[i]? = some (vw (tabW 0 i))) (hk : k < 256) : ∀ j, j < 1 → cur[256 * j + k]? = some (vw (tabW j k)) := by
  intro j hj
  obtain rfl : j = 0 := by omega
  simpa using h k hk
theorem row_keep {cur : Array Value} {q k : Nat} {v : Value} {P : Nat → Nat → Prop} {f : Nat → Nat → Value} (h : ∀ j i, P j i → cur[256 * j + i]? = some (f j i)) (hP : ∀ j i, P j i → 256 * j + i ≠ q * 256 + k) :
    ∀ j i, P j i → (cur.setIfInBounds (q * 256 + k) v)[256 * j + i]? = some (f j i) := by
  intro j i hp
  rw [Array.getElem?_setIfInBounds_ne (Ne.symm (hP j i hp))]; exact h j i hp
theorem row_new {cur : Array Value} {q k : Nat} (hs : cur.size = 2048) (hq : q < 8) (hk : k < 256) (h : ∀ j, j < q → cur[256 * j + k]? = some (vw (tabW j k))) :
    ∀ j, j < q + 1 → (cur.setIfInBounds (q * 256 + k) (vw (tabW q k)))[256 * j + k]? = some (vw (tabW j k)) := by
  intro j hj
  by_cases e : j = q
  · subst e; rw [show 256 * j + k = j * 256 + k by omega, Array.getElem?_setIfInBounds_self, if_pos (by omega)]
  · rw [Array.getElem?_setIfInBounds_ne (by omega)]; exact h j (by omega)
theorem tabW_next (q k : Nat) (hq : 1 ≤ q) : tabW 0 (tabW (q - 1) k &&& 255).toNat ^^^ (tabW (q - 1) k >>> 8) = tabW q k := by
  rw [← tabW_succ]; congr 1; omega
theorem run_alloc144 (w : World) : (Instr.alloc 144 true (.tuple #[])).run Tryz.prog w = .ok (.pointer (some ⟨w.heap.size, 0, none⟩)) (w.alloc (.cells (Array.replicate 2048 (.int .u32 0)) 144)) := by kernel_rfl
theorem wpList_alloc144 {ops : Array Oper} {rest : List Oper} {o : Oper} {a : Act} {w : World} {Q : Exit → Act → World → Prop} (hg : o.guard = none) (hop : o.op = .alloc 144)
    (h : ∀ cur : Array Value, cur.size = 2048 → wpList Tryz.prog ops Q rest (a.put o.dst (.pointer (some ⟨w.heap.size, 0, none⟩))) (w.alloc (.cells cur 144))) : wpList Tryz.prog ops Q (o :: rest) a w := by
  refine wpList_plain hg fun K hK => ?_
  unfold Oper.wp execOp
  simp only [hop, Sem.run_bind, run_alloc144, Result.andThen_ok, Sem.run_pure, Oper.upon]
  exact hK _ _ (h _ (by simp))
set_option maxRecDepth 100000 in
set_option maxHeartbeats 400000 in
theorem mk_any (w : World) :
    Calls Tryz.prog 65 #[.int .u32 3988292384] w fun e w' => ∃ g, e = .returned (.pointer (some ⟨g, 0, none⟩)) ∧ w.heap.size ≤ g ∧
      ∃ cur', Blk w' g cur' 144 ∧ cur'.size = 2048 ∧ (∀ j i, j < 8 → i < 256 → cur'[256 * j + i]? = some (vw (tabW j i))) ∧ Fresh w w' := by
  go_enter Tryz.func65, Tryz.ntmps65
  go_wp2_with (first | (refine wpList_alloc144 rfl rfl ?_; intro cur hcur) | fail)
  have HB : Blk (w.alloc (.cells cur 144)) w.heap.size cur 144 := Blk.new w cur 144
  have HU : Hid (Fresh w (w.alloc (.cells cur 144))) := (Upd.refl _ w).alloc _
  have HZ : Hid (w.heap.size < (w.alloc (.cells cur 144)).heap.size) := HB.lt
  generalize w.alloc (.cells cur 144) = w1 at *
  refine (pop_any _ cur 144 _ HB hcur).mono ?_
  rintro e w2 ⟨rfl, cur2, hb2, hs2, hf2, hu2, hz2⟩
  have HU2 : Hid (Fresh w w2) := HU.out.newer hu2 (fun k hk => by omega)
  clear hu2 HB hz2 HU
  have HS2 : Hid (cur2.size = 2048) := hs2
  have HF2 : Hid (∀ j, j < 256 → cur2[j]? = some (vw (tabW 0 j))) := hf2
  have HB2 : Hid (Blk w2 w.heap.size cur2 144) := hb2
  clear hs2 hf2 hb2
  generalize hg : w.heap.size = g at *
  have HG : Hid (w.heap.size ≤ g) := Nat.le_of_eq hg
  clear hg
  go_wp2
  go_loopw [4] (fun i wr => ∃ k : Nat, k ≤ 256 ∧ i = .int .i64 k ∧ ∃ cur', Blk wr g cur' 144 ∧ cur'.size = 2048 ∧ (∀ i, i < 256 → cur'[i]? = some (vw (tabW 0 i))) ∧ (∀ j i, j < 8 → i < k → cur'[256 * j + i]? = some (vw (tabW j i))) ∧ Fresh w wr) (fun i _ => 256 - (intOf i).toNat)
  case atStart => exact ⟨0, by omega, rfl, cur2, HB2.out, HS2.out, HF2.out, fun j i _ hi => by omega, HU2.out⟩
  case round =>
    obtain ⟨wo, rfl⟩ : ∃ wo : World, wo = wr := ⟨_, rfl⟩
    obtain ⟨k, hk, rfl, cur', hb', hs', h0, hf, hu⟩ := hrel
    have HB : Hid (Blk wo g cur' 144) := hb'
    have HS : Hid (cur'.size = 2048) := hs'
    have H0 : Hid (∀ i, i < 256 → cur'[i]? = some (vw (tabW 0 i))) := h0
    have HF : Hid (∀ j i, j < 8 → i < k → cur'[256 * j + i]? = some (vw (tabW j i))) := hf
    have HW : Hid (Fresh w wo) := hu
    clear hb' hs' h0 hf hu HB2 HS2 HF2 HU2
    by_cases hlt : k < 256
    · have hc : wo.cell? ⟨g, k, none⟩ = some (vw (tabW 0 k)) := by rw [HB.out.cell]; exact H0.out k hlt
      go_wp2
      go_loopw [5, 6] (fun v j wq => ∃ q : Nat, 1 ≤ q ∧ q ≤ 8 ∧ j = .int .i64 q ∧ v = .int .u32 (I32 (tabW (q - 1) k)) ∧ ∃ cur', Blk wq g cur' 144 ∧ cur'.size = 2048 ∧ (∀ i, i < 256 → cur'[i]? = some (vw (tabW 0 i))) ∧ (∀ j i, j < 8 → i < k → cur'[256 * j + i]? = some (vw (tabW j i))) ∧ (∀ j, j < q → cur'[256 * j + k]? = some (vw (tabW j k))) ∧ Fresh w wq) (fun _ j _ => 8 - (intOf j).toNat)
      case atStart => exact ⟨1, by omega, by omega, rfl, rfl, cur', HB.out, HS.out, H0.out, HF.out, row0 H0.out hlt, HW.out⟩
      case round =>
        obtain ⟨q, hq1, hq, rfl, rfl, cur3, hb', hs', h0, hf, hf2, hu⟩ := hrel
        have HB' : Hid (Blk wr g cur3 144) := hb'
        have HS' : Hid (cur3.size = 2048) := hs'
        have H0' : Hid (∀ i, i < 256 → cur3[i]? = some (vw (tabW 0 i))) := h0
        have HF' : Hid (∀ j i, j < 8 → i < k → cur3[256 * j + i]? = some (vw (tabW j i))) := hf
        have HC' : Hid (∀ j, j < q → cur3[256 * j + k]? = some (vw (tabW j k))) := hf2
        have HW' : Hid (Fresh w wr) := hu
        clear hb' hs' h0 hf hu hf2
        by_cases hlt2 : q < 8
        · have hl := and255_lt (tabW (q - 1) k)
          have hld : wr.cell? ⟨g, (I32 (tabW (q - 1) k &&& 255)).toNat, none⟩ = some (vw (tabW 0 (tabW (q - 1) k &&& 255).toNat)) := by
            rw [HB'.out.cell, I32_toNat]; exact H0'.out _ hl
          have hb0 := I32_nonneg (tabW (q - 1) k &&& 255)
          have hb1 : I32 (tabW (q - 1) k &&& 255) < 256 := by rw [I32_def]; omega
          obtain ⟨old, hst⟩ := HB'.out.some (j := q * 256 + k) (by rw [HS'.out]; omega)
          have hfr := HB'.out.free (q * 256 + k)
          have HT : Hid (tabW 0 (tabW (q - 1) k &&& 255).toNat ^^^ (tabW (q - 1) k >>> 8) = tabW q k) := tabW_next q k hq1
          clear hl
          generalize tabW (q - 1) k = X at *
          generalize tabW 0 (X &&& 255).toNat = Y at *
          go_wp2
          go_roundw
          case rel =>
            exact ⟨q + 1, by omega, by omega, by go_num, by rw [HT.out]; rfl, _, HB'.out.set _ _, by simp [HS'.out], (fun i hi => by rw [Array.getElem?_setIfInBounds_ne (by omega)]; exact H0'.out i hi),
              (fun j i hj hi => row_keep (P := fun j i => j < 8 ∧ i < k) (fun j i h => HF'.out j i h.1 h.2) (fun j i h => by omega) j i ⟨hj, hi⟩), by rw [HT.out]; exact row_new HS'.out hlt2 hlt HC'.out, HW'.out.setCell (fun h => absurd h (by have := HG.out; dsimp only; omega)) _⟩
          case measure => simp [intOf]; omega
        · go_wp2
          go_roundw
          case rel =>
            obtain rfl : q = 8 := by omega
            exact ⟨k + 1, by omega, by go_num, cur3, HB'.out, HS'.out, H0'.out, (fun j i hj hi => by
              by_cases e : i = k
              · subst e; exact HC'.out j hj
              · exact HF'.out j i hj (by omega)), HW'.out⟩
          case measure => simp [intOf]; omega
    · go_wp2
      go_ret
      exact ⟨g, rfl, HG.out, cur', HB.out, HS.out, fun j i hj hi => HF.out j i hj (by omega), HW.out⟩
end Go.Proofs.YtpkipinamlbdoaaGreatDoor

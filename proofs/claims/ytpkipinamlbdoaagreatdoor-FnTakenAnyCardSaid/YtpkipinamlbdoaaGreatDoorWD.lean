/-
  The walks of CRC-32, the library's way through the tables: it returns crcOf of the bytes. Condition: at least sixteen bytes, and they are there.
-/
import Derived.Test.YtpkipinamlbdoaaGreatDoorWC
namespace Go.Proofs.YtpkipinamlbdoaaGreatDoor
open Go Go.RowKit
attribute [local go_sem] I32_cvt I8_cvt I32_add I32_and I32_or I32_xor I8_xor I32_notm I32_shr1 I32_shr8 I32_shr16 I32_shr24 I32_shl8 I32_shl16 I32_shl24 I32_beq I32_and1 I32_and255 I32_xorp I32_eq1

theorem byte_tab (X : UInt32) (x : UInt8) : Hid (tabW 0 (X.toUInt8 ^^^ x).toNat ^^^ (X >>> 8) = crcByte X x) := by
  show _ = _
  rw [byte_table, tabW_zero, ofNat_toNat8]
theorem fold_take_succ (c : UInt32) (l : List UInt8) (k : Nat) (h : k < l.length) : Hid ((l.take (k+1)).foldl crcByte c = crcByte ((l.take k).foldl crcByte c) l[k]) := by
  show _ = _
  rw [List.take_succ_eq_append_getElem h, List.foldl_append]; rfl
set_option maxRecDepth 100000 in
set_option maxHeartbeats 400000 in
theorem supd_any (X0 : UInt32) (g : Nat) (l : List UInt8) (b o n c : Nat) (w : World) (hn : n = l.length) (hc : n ≤ c) (hm : c ≤ maxLen) (hl : Bytes w b o l)
    (hT : ∀ i, i < 256 → w.cell? ⟨g, i, none⟩ = some (vw (tabW 0 i))) :
    Calls Tryz.prog 68 #[.int .u32 (I32 X0), .pointer (some ⟨g, 0, none⟩), .slice (some ⟨b, o, none⟩) n c] w fun e w' =>
      e = .returned (.int .u32 (I32 (~~~ (l.foldl crcByte (~~~ X0))))) ∧ w = w' := by
  unfold maxLen at hm
  have hnl : n ≤ l.length := Nat.le_of_eq hn
  have hln : l.length ≤ n := Nat.le_of_eq hn.symm
  clear hn
  have HT : Hid (∀ i, i < 256 → w.cell? ⟨g, i, none⟩ = some (vw (tabW 0 i))) := hT
  have HL : Hid (Bytes w b o l) := hl
  clear hT hl
  go_enter Tryz.func68, Tryz.ntmps68
  go_wp2
  go_loop [0, 13] (fun x i => ∃ k : Nat, k ≤ n ∧ i = .int .i64 k ∧ x = .int .u32 (I32 ((l.take k).foldl crcByte (~~~ X0)))) (fun _ i => n - (intOf i).toNat)
  case atStart => exact ⟨0, by omega, rfl, rfl⟩
  case round =>
    obtain ⟨k, hk, rfl, rfl⟩ := hrel
    by_cases hlt : k < n
    · have hkl : k < l.length := by omega
      have hcell := HL.out k hkl
      have hnx := fold_take_succ (~~~ X0) l k hkl
      generalize (l.take k).foldl crcByte (~~~ X0) = X at *
      generalize l[k] = x at *
      have hbt := byte_tab X x
      have hld : w.cell? ⟨g, (I8 (X.toUInt8 ^^^ x)).toNat, none⟩ = some (vw (tabW 0 (X.toUInt8 ^^^ x).toNat)) := by
        rw [I8_toNat]; exact HT.out _ (UInt8.toNat_lt _)
      have hb0 := I8_nonneg (X.toUInt8 ^^^ x)
      have hb1 := I8_lt (X.toUInt8 ^^^ x)
      generalize tabW 0 (X.toUInt8 ^^^ x).toNat = Y at *
      go_wp2
      go_round
      case rel => exact ⟨k + 1, by omega, by go_num, by rw [hnx.out, ← hbt.out]⟩
      case measure => simp [intOf]; omega
    · go_wp2
      go_ret
      refine ⟨?_, rfl⟩
      have hk' : l.take k = l := List.take_of_length_le (by omega)
      rw [hk']
      rfl
def le32 (a b c d : UInt8) : UInt32 := a.toUInt32 ||| b.toUInt32 <<< 8 ||| c.toUInt32 <<< 16 ||| d.toUInt32 <<< 24
set_option maxRecDepth 100000 in
set_option maxHeartbeats 400000 in
theorem le32_any (p0 p1 p2 p3 : UInt8) (b o n c : Nat) (w : World) (h4 : 4 ≤ n)
    (h0 : w.cell? ⟨b, o, none⟩ = some (vb p0)) (h1 : w.cell? ⟨b, o + 1, none⟩ = some (vb p1)) (h2 : w.cell? ⟨b, o + 2, none⟩ = some (vb p2)) (h3 : w.cell? ⟨b, o + 3, none⟩ = some (vb p3)) :
    Calls Tryz.prog 67 #[.slice (some ⟨b, o, none⟩) n c] w fun e w' => e = .returned (.int .u32 (I32 (le32 p0 p1 p2 p3))) ∧ ∃ m, w' = w.drewN m := by
  go_enter Tryz.func67, Tryz.ntmps67
  go_wp2
  go_quiet (fail)
  go_wp2
  go_ret
  exact ⟨rfl, nq, rfl⟩

theorem fold8 (c : UInt32) (l : List UInt8) (i : Nat) (h : i + 8 ≤ l.length) : (l.take (i + 8)).foldl crcByte c =
    [l[i], l[i + 1], l[i + 2], l[i + 3], l[i + 4], l[i + 5], l[i + 6], l[i + 7]].foldl crcByte ((l.take i).foldl crcByte c) := by
  have e : l.take (i + 8) = l.take i ++ [l[i], l[i + 1], l[i + 2], l[i + 3], l[i + 4], l[i + 5], l[i + 6], l[i + 7]] := by
    rw [List.take_succ_eq_append_getElem (by omega), List.take_succ_eq_append_getElem (by omega), List.take_succ_eq_append_getElem (by omega), List.take_succ_eq_append_getElem (by omega),
      List.take_succ_eq_append_getElem (by omega), List.take_succ_eq_append_getElem (by omega), List.take_succ_eq_append_getElem (by omega), List.take_succ_eq_append_getElem (by omega)]
    simp only [List.append_assoc, List.cons_append, List.nil_append]
  rw [e, List.foldl_append]
theorem shr24_lt (d : UInt32) : (d >>> 24).toNat < 256 := by rw [← shr24_ff]; exact and255_lt _
/-- The tables' block, a cell of it by its own spelling. -/
theorem tab_cell {w : World} {g : Nat} (h : ∀ j i, j < 8 → i < 256 → w.cell? ⟨g, 256 * j + i, none⟩ = some (vw (tabW j i))) (j : Nat) (hj : j < 8) (x : UInt32) (hx : x.toNat < 256) (m : Nat) (hm : m = 256 * j) :
    w.cell? ⟨g, m + (I32 x).toNat, none⟩ = some (vw (tabW j x.toNat)) := by
  subst hm; rw [I32_toNat]; exact h j _ hj hx
theorem tab_cell8 {w : World} {g : Nat} (h : ∀ j i, j < 8 → i < 256 → w.cell? ⟨g, 256 * j + i, none⟩ = some (vw (tabW j i))) (j : Nat) (hj : j < 8) (x : UInt8) (m : Nat) (hm : m = 256 * j) :
    w.cell? ⟨g, m + (I8 x).toNat, none⟩ = some (vw (tabW j x.toNat)) := by
  subst hm; rw [I8_toNat]; exact h j _ hj x.toNat_lt
set_option maxRecDepth 100000 in
set_option maxHeartbeats 1000000 in
theorem slc_any (X0 : UInt32) (g : Nat) (l : List UInt8) (b o n c : Nat) (w : World) (hn : n = l.length) (h16 : 16 ≤ n) (hc : n ≤ c) (hm : c ≤ maxLen) (hl : Bytes w b o l)
    (hT : ∀ j i, j < 8 → i < 256 → w.cell? ⟨g, 256 * j + i, none⟩ = some (vw (tabW j i))) :
    Calls Tryz.prog 64 #[.int .u32 (I32 X0), .pointer (some ⟨g, 0, none⟩), .slice (some ⟨b, o, none⟩) n c] w fun e w' =>
      e = .returned (.int .u32 (I32 (~~~ (l.foldl crcByte (~~~ X0))))) ∧ ∃ m, w' = w.drewN m := by
  unfold maxLen at hm
  have HN : Hid (n = l.length) := hn
  have HT : Hid (∀ j i, j < 8 → i < 256 → w.cell? ⟨g, 256 * j + i, none⟩ = some (vw (tabW j i))) := hT
  have HL : Hid (Bytes w b o l) := hl
  clear hT hl hn
  go_enter Tryz.func64, Tryz.ntmps64
  go_wp2
  go_loopw [0, 2] (fun x p wr => ∃ k n' c' : Nat, Hid (n = 8 * k + n') ∧ Hid (c = 8 * k + c') ∧ 0 < n' ∧ n' ≤ c' ∧ c' ≤ 9223372036854775807 ∧ p = .slice (some ⟨b, o + 8 * k, none⟩) n' c' ∧ x = .int .u32 (I32 ((l.take (8 * k)).foldl crcByte (~~~ X0))) ∧ ∃ m, wr = w.drewN m)
    (fun _ p _ => match p with | .slice _ q _ => q | _ => 0)
  case atStart => exact ⟨0, n, c, by show _ = _; omega, by show _ = _; omega, by omega, by omega, by omega, rfl, rfl, 0, rfl⟩
  case round =>
    obtain ⟨k, n', c', HK, HC, h0, h1, h2, rfl, rfl, m, rfl⟩ := hrel
    by_cases hlt : 8 < n'
    · have hkl : 8 * k + 8 ≤ l.length := by have := HN.out; have := HK.out; omega
      have F : ∀ j (hj : j < 8), w.cell? ⟨b, o + 8 * k + j, none⟩ = some (vb (l[8 * k + j]'(by omega))) := fun j hj => by
        have := HL.out (8 * k + j) (by omega); rw [Nat.add_assoc]; exact this
      have f0 := F 0 (by omega)
      have f1 := F 1 (by omega)
      have f2 := F 2 (by omega)
      have f3 := F 3 (by omega)
      have f4 := F 4 (by omega)
      have f5 := F 5 (by omega)
      have f6 := F 6 (by omega)
      have f7 := F 7 (by omega)
      have H8 : Hid _ := fold8 (~~~ X0) l (8 * k) hkl
      clear F
      simp only [Nat.add_zero] at f0
      generalize (l.take (8 * k)).foldl crcByte (~~~ X0) = X at *
      generalize l[8 * k + 0] = p0 at *
      generalize l[8 * k + 1] = p1 at *
      generalize l[8 * k + 2] = p2 at *
      generalize l[8 * k + 3] = p3 at *
      generalize l[8 * k + 4] = p4 at *
      generalize l[8 * k + 5] = p5 at *
      generalize l[8 * k + 6] = p6 at *
      generalize l[8 * k + 7] = p7 at *
      go_wp2_with fail
      refine (le32_any p0 p1 p2 p3 b (o + 8 * k) n' c' (w.drewN m) (by omega) f0 f1 f2 f3).mono ?_
      rintro e w1 ⟨rfl, m1, rfl⟩
      have H8' : Hid _ := slice8 X p0 p1 p2 p3 p4 p5 p6 p7 (X ^^^ le32 p0 p1 p2 p3) rfl
      generalize hd : X ^^^ le32 p0 p1 p2 p3 = d at H8'
      have t0 : w.cell? ⟨g, (I8 p7).toNat, none⟩ = some (vw (tabW 0 p7.toNat)) := by have := tab_cell8 HT.out 0 (by omega) p7 0 rfl; rwa [Nat.zero_add] at this
      have t1 := tab_cell8 HT.out 1 (by omega) p6 256 rfl
      have t2 := tab_cell8 HT.out 2 (by omega) p5 512 rfl
      have t3 := tab_cell8 HT.out 3 (by omega) p4 768 rfl
      have t4 := tab_cell HT.out 4 (by omega) (d >>> 24) (shr24_lt d) 1024 rfl
      have t5 := tab_cell HT.out 5 (by omega) ((d >>> 16) &&& 255) (and255_lt _) 1280 rfl
      have t6 := tab_cell HT.out 6 (by omega) ((d >>> 8) &&& 255) (and255_lt _) 1536 rfl
      have t7 := tab_cell HT.out 7 (by omega) (d &&& 255) (and255_lt _) 1792 rfl
      have n0 := I8_nonneg p7
      have n1 := I8_nonneg p6
      have n2 := I8_nonneg p5
      have n3 := I8_nonneg p4
      have n4 := I32_nonneg (d >>> 24)
      have n5 := I32_nonneg ((d >>> 16) &&& 255)
      have n6 := I32_nonneg ((d >>> 8) &&& 255)
      have n7 := I32_nonneg (d &&& 255)
      have b0 := I8_lt p7
      have b1 := I8_lt p6
      have b2 := I8_lt p5
      have b3 := I8_lt p4
      have b4 : I32 (d >>> 24) < 256 := by rw [I32_def]; have := shr24_lt d; omega
      have b5 : I32 ((d >>> 16) &&& 255) < 256 := by rw [I32_def]; have := and255_lt (d >>> 16); omega
      have b6 : I32 ((d >>> 8) &&& 255) < 256 := by rw [I32_def]; have := and255_lt (d >>> 8); omega
      have b7 : I32 (d &&& 255) < 256 := by rw [I32_def]; have := and255_lt d; omega
      generalize tabW 0 p7.toNat = Y0 at *
      generalize tabW 1 p6.toNat = Y1 at *
      generalize tabW 2 p5.toNat = Y2 at *
      generalize tabW 3 p4.toNat = Y3 at *
      generalize tabW 4 (d >>> 24).toNat = Y4 at *
      generalize tabW 5 ((d >>> 16) &&& 255).toNat = Y5 at *
      generalize tabW 6 ((d >>> 8) &&& 255).toNat = Y6 at *
      generalize tabW 7 (d &&& 255).toNat = Y7 at *
      go_wp2
      have g7 : (7 : Int) < (n' : Int) := by omega
      have g6 : (6 : Int) < (n' : Int) := by omega
      have g5 : (5 : Int) < (n' : Int) := by omega
      have g4 : (4 : Int) < (n' : Int) := by omega
      go_quiet (fail)
      clear g4 g5 g6 g7
      clear t0 t1 t2 t3 t4 t5 t6 t7 f0 f1 f2 f3 f4 f5 f6 f7 n0 n1 n2 n3 n4 n5 n6 n7 b0 b1 b2 b3 b4 b5 b6 b7
      go_wp2
      go_roundw
      case rel =>
        refine ⟨k + 1, n' - 8, c' - 8, ?_, ?_, by omega, by omega, by omega, rfl, ?_, m + m1 + nq, ?_⟩
        · have := HK.out; show _ = _; omega
        · have := HC.out; show _ = _; omega
        · have e1 := H8.out
          rw [H8'.out] at e1
          exact congrArg (fun x => Value.int .u32 (I32 x)) e1.symm
        · rfl
      case measure => simp; omega
    · have h00 : ((n' : Int) == 0) = false := by rw [beq_eq_false_iff_ne]; omega
      generalize hX : (l.take (8 * k)).foldl crcByte (~~~ X0) = X
      have HX : Hid (_ = X) := hX
      clear hX
      go_wp2_with fail
      have e1 : n' = (l.drop (8 * k)).length := by rw [List.length_drop]; have := HN.out; have := HK.out; omega
      have hl' : Bytes (w.drewN m) b (o + 8 * k) (l.drop (8 * k)) := fun i hi => HL.out.drop (8 * k) i hi
      have ht' : ∀ i, i < 256 → (w.drewN m).cell? ⟨g, i, none⟩ = some (vw (tabW 0 i)) := fun i hi => by have := HT.out 0 i (by omega) hi; rwa [Nat.mul_zero, Nat.zero_add] at this
      refine (supd_any (~~~ X) g (l.drop (8 * k)) b (o + 8 * k) n' c' (w.drewN m) e1 h1 (by unfold maxLen; omega) hl' ht').mono ?_
      rintro e w1 ⟨rfl, rfl⟩
      clear e1 hl' ht'
      go_wp2
      go_ret
      refine ⟨?_, m, rfl⟩
      have e2 : (l.drop (8 * k)).foldl crcByte X = l.foldl crcByte (~~~ X0) := by
        rw [← HX.out, ← List.foldl_append, List.take_append_drop]
      simp [e2]
end Go.Proofs.YtpkipinamlbdoaaGreatDoor

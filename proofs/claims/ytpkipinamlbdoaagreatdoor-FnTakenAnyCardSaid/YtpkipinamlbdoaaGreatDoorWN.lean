/-
  The walks of the reference's numbers: at and number. Conditions: what is indexed is there; at most eight bytes.
-/
import Derived.Test.YtpkipinamlbdoaaGreatDoorWA
namespace Go.Proofs.YtpkipinamlbdoaaGreatDoor
open Go Go.RowKit

theorem beN_snoc (l : List UInt8) (x : UInt8) : beN (l ++ [x]) = beN l * 256 + x.toNat := by simp [beN]
theorem beN_lt (l : List UInt8) : beN l < 256 ^ l.length := by
  rw [← List.reverse_reverse l]
  generalize l.reverse = r
  induction r with
  | nil => simp [beN]
  | cons x r ih =>
    rw [List.reverse_cons, beN_snoc, List.length_append, List.length_singleton, Nat.pow_succ]
    have := x.toNat_lt
    have h : beN r.reverse + 1 ≤ 256 ^ r.reverse.length := ih
    have := Nat.mul_le_mul_right 256 h
    omega
theorem wraps_i64 (n : Int) (h₀ : 0 ≤ n) (h₁ : n < 2 ^ 63) : IntKind.i64.wrap n = n := by rw [IntKind.wrap_i64]; omega
theorem or_join (a : Nat) (x : UInt8) (h : a < 256 ^ 4) : bits .or .i64 ((a : Int) * 256) (I8 x) = ((a * 256 + x.toNat : Nat) : Int) := by
  have := I8_nonneg x
  have := I8_lt x
  rw [bits_join .i64 63 (by decide) wraps_i64 8 _ _ (by omega) (by omega) (by omega) (by omega) (by omega) (by omega), I8_def]
  omega
set_option maxHeartbeats 400000 in
theorem at_any (l : List UInt8) (b o n c p s : Nat) (w : World) (hn : n = l.length) (hc : n ≤ c) (hm : c ≤ maxLen) (hl : Bytes w b o l) (hs : 0 < s) (hs4 : s ≤ 4) (hp : p + s ≤ n) :
    Calls Tryz.prog 11 #[.slice (some ⟨b, o, none⟩) n c, .int .i64 p, .int .i64 s] w fun e w' => e = .returned (.int .i64 (beN ((l.drop p).take s) : Nat)) ∧ w = w' := by
  unfold maxLen at hm
  have HN : Hid (n = l.length) := hn
  have HL : Hid (Bytes w b o l) := hl
  clear hn hl
  have hpc : ¬ c = p := by omega
  go_enter Tryz.func11, Tryz.ntmps11
  go_wp2
  go_loop [7, 17] (fun v i => ∃ k : Nat, k ≤ s ∧ i = .int .i64 k ∧ v = .int .i64 (beN ((l.drop p).take k) : Nat)) (fun _ i => s - (intOf i).toNat)
  case atStart => exact ⟨0, by omega, rfl, rfl⟩
  case round =>
    obtain ⟨k, hk, rfl, rfl⟩ := hrel
    by_cases hlt : k < s
    · have hkl : p + k < l.length := by have := HN.out; omega
      have hcell := HL.out (p + k) hkl
      rw [← Nat.add_assoc] at hcell
      have hnx : Hid (beN ((l.drop p).take (k + 1)) = beN ((l.drop p).take k) * 256 + (l[p + k]).toNat) := by
        show _ = _
        rw [List.take_succ_eq_append_getElem (by simp; omega), beN_snoc]; simp
      have hlt4 : beN ((l.drop p).take k) < 256 ^ 4 := by
        refine Nat.lt_of_lt_of_le (beN_lt _) (Nat.pow_le_pow_right (by decide) ?_)
        rw [List.length_take]; omega
      generalize beN ((l.drop p).take k) = a at *
      generalize l[p + k] = x at *
      have hor := or_join a x hlt4
      have ha : (a : Int) < 4294967296 := by omega
      have := I8_nonneg x
      have := I8_lt x
      clear hlt4
      go_wp2
      go_round
      case rel => exact ⟨k + 1, by omega, by go_num, by rw [hnx.out]; go_num⟩
      case measure => simp [intOf]; omega
    · go_wp2
      go_ret
      obtain rfl : k = s := by omega
      exact ⟨rfl, rfl⟩

theorem info5 : (Tryz.prog.info? 5).map (fun i => (i.zero, i.size, i.bytes)) = some (some (.int .u8 0), 1, 1) := by kernel_rfl
theorem beB_get (N : Nat) : ∀ (s j : Nat) (h : j < (beB N s).length), (beB N s)[j] = UInt8.ofNat (N / 256 ^ (s - 1 - j))
  | 0, j, h => by simp [beB] at h
  | s + 1, 0, h => by simp [beB]
  | s + 1, j + 1, h => by
    simp only [beB, List.getElem_cons_succ]
    rw [beB_get N s j (by simpa [beB] using h)]
    congr 3; omega
theorem beB_take (N s q : Nat) (h : q + 1 ≤ s) : (beB N s).take (s - (q + 1)) ++ [UInt8.ofNat (N / 256 ^ q)] = (beB N s).take (s - q) := by
  have e : s - q = (s - (q + 1)) + 1 := by omega
  rw [e, List.take_succ_eq_append_getElem (by rw [beB_length]; omega), beB_get]
  congr 5; omega
theorem shr_byte (N q : Nat) : (N : Int) / 2 ^ (8 * q) % 256 = I8 (UInt8.ofNat (N / 256 ^ q)) := by
  rw [I8_def, UInt8.toNat_ofNat', show (256 : Nat) = 2 ^ 8 by rfl, ← Nat.pow_mul]
  simp
theorem Own.empty (w : World) (base : Nat) (hb : base ≤ w.heap.size) : Own (w.alloc (.cells #[] 5)) base (.slice (some ⟨w.heap.size, 0, none⟩) 0 0) [] :=
  World.ownsRow_made w #[] 0 hb (by unfold maxLen; omega) rfl
theorem cell_new1 (w : World) (x : Value) : ∀ j u, [x][j]? = some u → (w.alloc (.cells #[x] 5)).cell? ((⟨w.heap.size, 0, none⟩ : Addr).add j) = some u := by
  intro j u hj
  have : j = 0 := by
    cases j with
    | zero => rfl
    | succ j => simp at hj
  subst this
  simp at hj; subst hj
  simp [Addr.add, World.cell?_alloc_new]
set_option maxRecDepth 100000 in
set_option maxHeartbeats 400000 in
theorem number_any (N s : Nat) (w : World) (hs8 : s ≤ 8) (_hN : N < 9223372036854775808) :
    Calls Tryz.prog 19 #[.int .i64 N, .int .i64 s] w fun e w' => ∃ v, e = .returned v ∧ Own w' w.heap.size v (beB N s) ∧ Fresh w w' := by
  obtain ⟨i0, hi, hz0, hz1, hz2⟩ := info_parts info5
  go_enter Tryz.func19, Tryz.ntmps19
  go_wp2
  go_loopw [5, 6] (fun v i wr => ∃ k : Nat, k ≤ s ∧ i = .int .i64 ((k : Int) - 1) ∧ Own wr w.heap.size v ((beB N s).take (s - k)) ∧ Fresh w wr) (fun _ i _ => (intOf i + 1).toNat)
  case atStart => exact ⟨s, by omega, rfl, by rw [Nat.sub_self]; exact Own.empty w _ (Nat.le_refl _), (Upd.refl _ _).alloc _⟩
  case round =>
    obtain ⟨k, hk, rfl, hown, hu⟩ := hrel
    by_cases hlt : 0 < k
    · obtain ⟨q, rfl⟩ : ∃ q, k = q + 1 := ⟨k - 1, by omega⟩
      rw [show ((q + 1 : Nat) : Int) - 1 = q by omega]
      have hcv := shr_byte N q
      have HT : Hid _ := beB_take N s q hk
      have HL : Hid (((beB N s).take (s - (q + 1))).length ≤ 8) := by show _ ≤ _; rw [List.length_take, beB_length]; omega
      generalize UInt8.ofNat (N / 256 ^ q) = x at *
      generalize (beB N s).take (s - (q + 1)) = L at *
      have HO : Hid (Own wr w.heap.size u5 L) := hown
      have HU : Hid (Fresh w wr) := hu
      clear hown hu
      go_wp2_with (at_builtin; refine wpList_append_own _ rfl _ _ 22 rfl w.heap.size 5 i0 (.int .u8 0) 1 1 Tryz.underlying22 hi hz0 hz1 hz2 rfl (by decide) _ _ _ rfl (HO.out.alloc _) ⟨wr.heap.size, 0, none⟩ 1 1 [.int .u8 (I8 x)] rfl rfl ?c1 ?c2 ?c3 ?c4 ?c5 ?_)
      case c1 => exact cell_new1 wr _
      case c2 => exact bv_one [x]
      case c3 => have := HL.out; unfold maxLen; omega
      case c4 => have := HL.out; omega
      case c5 => have := HU.out.size; simp; omega
      intro v' w1 hown' hgrow _
      have HO1 : Hid (Own w1 w.heap.size v' ((beB N s).take (s - q))) := by
        show Own _ _ _ _; rw [← HT.out]
        show w1.ownsRow _ _ _ _ _ _
        rw [bv_append, List.length_append]; exact hown'
      have HU1 : Hid (Fresh w w1) := (HU.out.alloc _).grown hgrow (fun k hk hlt => by have := (HO.out.lt k hk).1; omega)
      clear hown' hgrow
      go_wp2
      go_roundw
      case rel => exact ⟨q, by omega, rfl, HO1.out, HU1.out⟩
      case measure => simp [intOf]
    · obtain rfl : k = 0 := by omega
      have HO : Hid (Own wr w.heap.size u5 ((beB N s).take (s - 0))) := hown
      clear hown
      go_wp2
      go_ret
      refine ⟨_, rfl, ?_, hu⟩
      have := HO.out
      rwa [Nat.sub_zero, List.take_of_length_le (by rw [beB_length]; omega)] at this
end Go.Proofs.YtpkipinamlbdoaaGreatDoor
